import JvmDerived
import JvmDerived.Pilot.@@N@@Statement
import JvmDerived.Pilot.@@N@@Code
set_option linter.unusedVariables false
set_option linter.unusedSimpArgs false
/- laws to paste: Road.backV (cut by pick.py; bodies as the Statement names them) -/
namespace Jvm.Pilot.@@N@@
namespace StrChars
open Jvm Sem ClassFile Op Lib Jvm.Stand Jvm.Free.XT Jvm.Free.ALB Jvm.Free.JM Jvm.Free
open Jvm.Lib.Cold (StaticIs)
/-- a char array whose places are chars -/
def Ch (a : Addr) (A : Cell) (U : State) : Prop := Arr .char a A U ∧ Typed .char A
theorem Ch.mv {a : Addr} {A : Cell} {U U' : State} (h : Ch a A U) (hal : U.vm.Alike U'.vm) (hh : U'.heap = U.heap) : Ch a A U' := ⟨h.1.mv hal hh, h.2⟩
theorem Ch.keep {a : Addr} {A : Cell} {U U' : State} (h : Ch a A U) (hal : U.vm.Alike U'.vm) (hk : U'.heap[a]? = some A) : Ch a A U' := ⟨h.1.keep hal hk, h.2⟩
/-- what place i of a char[]'s cell holds -/
def cv (A : Cell) (i : Nat) : Int32 := match A.slots[i]? with | some (.int x) => x | _ => 0
theorem Ch.get {a : Addr} {A : Cell} {U : State} (h : Ch a A U) {i : Nat} (hi : i < A.slots.size) : A.slots[i]? = some (.int (cv A i)) := by
  have e := Array.getElem?_eq_getElem hi
  have f := h.2 i _ e
  unfold cv; rw [e]
  generalize A.slots[i] = v at f
  cases v <;> simp [fits] at f ⊢
/-- the byte that i2b leaves of a char -/
def lo8 (x : Int32) : Int32 := x.toInt8.toInt32
theorem fits_lo8 (y : Int32) : fits .byte (.int (lo8 y)) = true := by
  have h1 := y.toInt8.le_toInt
  have h2 := y.toInt8.toInt_lt
  simp only [lo8, fits, Bool.and_eq_true, decide_eq_true_eq, Int32.le_iff_toInt_le, Int8.toInt_toInt32, show (-128 : Int32).toInt = -128 from by decide, show (127 : Int32).toInt = 127 from by decide]
  omega
/-- A' is A but that each place j of lo .. hi - 1 holds f j -/
def Laid (A A' : Cell) (lo hi : Nat) (f : Nat → Value) : Prop := A'.cls = A.cls ∧ A'.vm = A.vm ∧ A'.slots.size = A.slots.size ∧ ∀ i, A'.slots[i]? = if lo ≤ i ∧ i < hi then some (f i) else A.slots[i]?
theorem Laid.zero (A : Cell) (lo : Nat) (f : Nat → Value) : Laid A A lo (lo + 0) f := ⟨rfl, rfl, rfl, fun i => by rw [if_neg (by omega)]⟩
theorem Laid.step {A Ak : Cell} {lo k : Nat} {f : Nat → Value} {v : Value} (h : Laid A Ak lo k f) (hlo : lo ≤ k) (hk : k < Ak.slots.size) (hv : v = f k) : Laid A (Ak.setSlot k v) lo (k + 1) f := by
  refine ⟨h.1, h.2.1, by simpa [Cell.setSlot] using h.2.2.1, fun i => ?_⟩
  by_cases e : k = i
  · subst e; rw [Cell.slots_setSlot_self v hk, if_pos (by omega), hv]
  · rw [Cell.slots_setSlot_ne v e, h.2.2.2 i]
    by_cases q : lo ≤ i ∧ i < k
    · rw [if_pos q, if_pos (by omega)]
    · rw [if_neg q, if_neg (by omega)]
def U16 : String := "java/lang/StringUTF16"
namespace Cmp5
def yN : MethodName := ⟨"java/lang/StringUTF16", "compress", "([CI[BII)I"⟩
abbrev yB : ByteArray := jdk_52_method_21_code
theorem d0 : decode yB 0 = .ok (.iconst 0, 1) := by decide +kernel
theorem d1 : decode yB 1 = .ok (.istore 5, 2) := by decide +kernel
theorem d3 : decode yB 3 = .ok (.iload 5, 2) := by decide +kernel
theorem d5 : decode yB 5 = .ok (.iload 4, 2) := by decide +kernel
theorem d7 : decode yB 7 = .ok (.if_icmp (.ge) 37, 3) := by decide +kernel
theorem d10 : decode yB 10 = .ok (.aload_n 0, 1) := by decide +kernel
theorem d11 : decode yB 11 = .ok (.iload_n 1, 1) := by decide +kernel
theorem d12 : decode yB 12 = .ok (.caload, 1) := by decide +kernel
theorem d13 : decode yB 13 = .ok (.istore 6, 2) := by decide +kernel
theorem d15 : decode yB 15 = .ok (.iload 6, 2) := by decide +kernel
theorem d17 : decode yB 17 = .ok (.sipush 255, 3) := by decide +kernel
theorem d20 : decode yB 20 = .ok (.if_icmp (.le) 6, 3) := by decide +kernel
theorem d26 : decode yB 26 = .ok (.aload_n 2, 1) := by decide +kernel
theorem d27 : decode yB 27 = .ok (.iload_n 3, 1) := by decide +kernel
theorem d28 : decode yB 28 = .ok (.iload 6, 2) := by decide +kernel
theorem d30 : decode yB 30 = .ok (.i2b, 1) := by decide +kernel
theorem d31 : decode yB 31 = .ok (.bastore, 1) := by decide +kernel
theorem d32 : decode yB 32 = .ok (.iinc 1 1, 3) := by decide +kernel
theorem d35 : decode yB 35 = .ok (.iinc 3 1, 3) := by decide +kernel
theorem d38 : decode yB 38 = .ok (.iinc 5 1, 3) := by decide +kernel
theorem d41 : decode yB 41 = .ok (.goto (-38), 3) := by decide +kernel
theorem d44 : decode yB 44 = .ok (.iload 4, 2) := by decide +kernel
theorem d46 : decode yB 46 = .ok (.ireturn, 1) := by decide +kernel
def site : List Cond := []
def tab : Cond := tabOf yN yB 7 (some .int) site
def P (b : Addr) (A : Cell) (d : Addr) (B : Cell) (o q len : Nat) (args : Array Value) (s : State) : Prop := args = #[.ref b, .int (Int32.ofNat o), .ref d, .int (Int32.ofNat q), .int (Int32.ofNat len)] ∧ Ch b A s ∧ Arr .byte d B s ∧ b ≠ d ∧ o + len ≤ A.slots.size ∧ q + len ≤ B.slots.size ∧ ∀ i, i < len → ¬ 255 < cv A (o + i)
def E (b : Addr) (A : Cell) (d : Addr) (B : Cell) (o q len : Nat) (r : Option Value) (s u : State) : Prop := r = some (.int (Int32.ofNat len)) ∧ ∃ B', Put d B' s u ∧ Laid B B' q (q + len) (fun j => Value.int (lo8 (cv A (o + (j - q)))))
/-- no char of the range above 255: len; the places written hold each char's low byte -/
theorem law (l : Launch) (b : Addr) (A : Cell) (d : Addr) (B : Cell) (o q len : Nat) : Law l yN 5 5 0 0 yB 7 (some .int) site (P b A d B o q len) (E b A d B o q len) (copyLocs d q len) 0 0 := by
  refine Law.of_walk (plainFor_of_name (by decide +kernel)) (by decide +kernel) (by decide +kernel) (by decide) (fun _ _ h => by rw [h.1]; rfl) (fun _ U U' hal hh h => ⟨h.1, h.2.1.mv hal hh, h.2.2.1.mv hal hh, h.2.2.2⟩) (fun r U U' V V' h1 hal h2 h => ⟨h.1, h.2.elim fun B' q => ⟨B', q.1.mv h1 h2, q.2⟩⟩) ?_
  intro p e s m args below meth c s₁ X0 hexec hbytes hml hret hlk hnm hown hh0 W hP
  obtain ⟨rfl, hA, hB, hne, l1, l2, hp⟩ := hP
  have c1 : Steps p.tables e below (s₁.setTop (entryFrame m #[.ref b, .int (Int32.ofNat o), .ref d, .int (Int32.ofNat q), .int (Int32.ofNat len)] 7)) (s₁.setTop (mkF m 0 #[.val (.ref b), .val (.int (Int32.ofNat o)), .val (.ref d), .val (.int (Int32.ofNat q)), .val (.int (Int32.ofNat len)), .unset, .unset] [])) := entry rfl
  have hA0 := hA.1.mv X0.warmed.alike hh0
  have hB0 := hB.mv X0.warmed.alike hh0
  have a31 := hA.1.2.2.2
  have c2 : Steps p.tables e below (s₁.setTop (entryFrame m #[.ref b, .int (Int32.ofNat o), .ref d, .int (Int32.ofNat q), .int (Int32.ofNat len)] 7)) (s₁.setTop (mkF m 3 #[.val (.ref b), .val (.int (Int32.ofNat o)), .val (.ref d), .val (.int (Int32.ofNat q)), .val (.int (Int32.ofNat len)), .val (.int 0), .unset] [])) := c1.trans (by
    refine iconstV X0.here hexec rfl 0 (hb hbytes d0) (by decide) ?_
    refine XS.istore X0.here hexec rfl (hb hbytes d1) rfl rfl ?_
    exact Steps.refl _)
  have loop : ∀ (r i : Nat), i + r = len → ∀ (z : Slot), (z = .unset ∨ ∃ w, z = .val w ∧ w.category = 1) → ∀ (Tl : State) (Bk : Cell), Stand p l e { frames := 0, locals := 0, cells := 0, slots := 0 } s m #[.ref b, .int (Int32.ofNat o), .ref d, .int (Int32.ofNat q), .int (Int32.ofNat len)] below meth c Tl ([] ++ copyLocs d q i) 0 0 → Put d Bk s₁ Tl → Laid B Bk q (q + i) (fun j => Value.int (lo8 (cv A (o + (j - q))))) →
      Steps p.tables e below (s₁.setTop (entryFrame m #[.ref b, .int (Int32.ofNat o), .ref d, .int (Int32.ofNat q), .int (Int32.ofNat len)] 7)) (Tl.setTop (mkF m 3 #[.val (.ref b), .val (.int (Int32.ofNat (o + i))), .val (.ref d), .val (.int (Int32.ofNat (q + i))), .val (.int (Int32.ofNat len)), .val (.int (Int32.ofNat i)), z] [])) → ∃ (T' : State) (B' : Cell) (z' : Slot), Stand p l e { frames := 0, locals := 0, cells := 0, slots := 0 } s m #[.ref b, .int (Int32.ofNat o), .ref d, .int (Int32.ofNat q), .int (Int32.ofNat len)] below meth c T' ([] ++ copyLocs d q len) 0 0 ∧ Put d B' s₁ T' ∧ Laid B B' q (q + len) (fun j => Value.int (lo8 (cv A (o + (j - q))))) ∧
      Steps p.tables e below (s₁.setTop (entryFrame m #[.ref b, .int (Int32.ofNat o), .ref d, .int (Int32.ofNat q), .int (Int32.ofNat len)] 7)) (T'.setTop (mkF m 3 #[.val (.ref b), .val (.int (Int32.ofNat (o + len))), .val (.ref d), .val (.int (Int32.ofNat (q + len))), .val (.int (Int32.ofNat len)), .val (.int (Int32.ofNat len)), z'] [])) := by
    intro r
    induction r with
    | zero =>
      intro i hi z hz Tl Bk Xl pl fl cl
      have hil : i = len := by omega
      rw [hil] at Xl fl cl
      exact ⟨Tl, Bk, z, Xl, pl, fl, cl⟩
    | succ r ih =>
      intro i hi z hz Tl Bk Xl pl fl cl
      have all := X0.warmed.alike.symm.trans Xl.warmed.alike
      have hAl := hA0.keep all (pl.other hne hA0.1)
      have hBk := hB0.like all pl.1 fl.1 fl.2.1 fl.2.2.1
      have hlt : q + i < Bk.slots.size := by rw [fl.2.2.1]; omega
      have c3 : Steps p.tables e below (s₁.setTop (entryFrame m #[.ref b, .int (Int32.ofNat o), .ref d, .int (Int32.ofNat q), .int (Int32.ofNat len)] 7)) (Tl.setTop (mkF m 12 #[.val (.ref b), .val (.int (Int32.ofNat (o + i))), .val (.ref d), .val (.int (Int32.ofNat (q + i))), .val (.int (Int32.ofNat len)), .val (.int (Int32.ofNat i)), z] [.int (Int32.ofNat (o + i)), .ref b])) := cl.trans (by
        refine XS.iload Xl.here hexec rfl (hb hbytes d3) rfl ?_
        refine XS.iload Xl.here hexec rfl (hb hbytes d5) rfl ?_
        refine XS.icmpNo Xl.here hexec rfl (hb hbytes d7) rfl (ii_ge_f (lt32 (by omega) (by omega))) ?_
        refine XS.aloadN Xl.here hexec rfl (hb hbytes d10) rfl rfl ?_
        refine XS.iloadN Xl.here hexec rfl (hb hbytes d11) rfl ?_
        exact Steps.refl _)
      have c4 : Steps p.tables e below (s₁.setTop (entryFrame m #[.ref b, .int (Int32.ofNat o), .ref d, .int (Int32.ofNat q), .int (Int32.ofNat len)] 7)) (Tl.setTop (mkF m 13 #[.val (.ref b), .val (.int (Int32.ofNat (o + i))), .val (.ref d), .val (.int (Int32.ofNat (q + i))), .val (.int (Int32.ofNat len)), .val (.int (Int32.ofNat i)), z] [.int (cv A (o + i))])) := c3.trans (by
        refine Xl.aget hexec hAl rfl (hA.get (i := o + i) (by omega)) rfl rfl (hb hbytes d12) ?_
        exact Steps.refl _)
      have c5 : Steps p.tables e below (s₁.setTop (entryFrame m #[.ref b, .int (Int32.ofNat o), .ref d, .int (Int32.ofNat q), .int (Int32.ofNat len)] 7)) (Tl.setTop (mkF m 15 #[.val (.ref b), .val (.int (Int32.ofNat (o + i))), .val (.ref d), .val (.int (Int32.ofNat (q + i))), .val (.int (Int32.ofNat len)), .val (.int (Int32.ofNat i)), .val (.int (cv A (o + i)))] [])) := c4.trans (by
        refine XS.istoreS Xl.here hexec rfl (hb hbytes d13) rfl rfl hz ?_
        exact Steps.refl _)
      have c6 : Steps p.tables e below (s₁.setTop (entryFrame m #[.ref b, .int (Int32.ofNat o), .ref d, .int (Int32.ofNat q), .int (Int32.ofNat len)] 7)) (Tl.setTop (mkF m 31 #[.val (.ref b), .val (.int (Int32.ofNat (o + i))), .val (.ref d), .val (.int (Int32.ofNat (q + i))), .val (.int (Int32.ofNat len)), .val (.int (Int32.ofNat i)), .val (.int (cv A (o + i)))] [.int (lo8 (cv A (o + i))), .int (Int32.ofNat (q + i)), .ref d])) := c5.trans (by
        refine XS.iload Xl.here hexec rfl (hb hbytes d15) rfl ?_
        refine sipushV Xl.here hexec rfl 255 (hb hbytes d17) (by decide) ?_
        refine XS.icmpYes Xl.here hexec rfl (pc0 := 20) rfl (hb hbytes d20) rfl (ii_le_t (hp i (by omega))) (by decide) rfl ?_
        refine XS.aloadN Xl.here hexec rfl (hb hbytes d26) rfl rfl ?_
        refine XS.iloadN Xl.here hexec rfl (hb hbytes d27) rfl ?_
        refine XS.iload Xl.here hexec rfl (hb hbytes d28) rfl ?_
        refine i2b Xl.here hexec rfl (hb hbytes d30) rfl ?_
        exact Steps.refl _)
      obtain ⟨T7, X7, p7, st7⟩ := Xl.aput hexec hBk rfl hlt rfl (fits_lo8 (cv A (o + i))) (g := (mkF m 31 #[.val (.ref b), .val (.int (Int32.ofNat (o + i))), .val (.ref d), .val (.int (Int32.ofNat (q + i))), .val (.int (Int32.ofNat len)), .val (.int (Int32.ofNat i)), .val (.int (cv A (o + i)))] [.int (lo8 (cv A (o + i))), .int (Int32.ofNat (q + i)), .ref d])) rfl (rest := []) rfl (hb hbytes d31)
      have c8 : Steps p.tables e below (s₁.setTop (entryFrame m #[.ref b, .int (Int32.ofNat o), .ref d, .int (Int32.ofNat q), .int (Int32.ofNat len)] 7)) (T7.setTop (mkF m 32 #[.val (.ref b), .val (.int (Int32.ofNat (o + i))), .val (.ref d), .val (.int (Int32.ofNat (q + i))), .val (.int (Int32.ofNat len)), .val (.int (Int32.ofNat i)), .val (.int (cv A (o + i)))] [])) := c6.trans (st7 _ (Steps.refl _))
      have c9 : Steps p.tables e below (s₁.setTop (entryFrame m #[.ref b, .int (Int32.ofNat o), .ref d, .int (Int32.ofNat q), .int (Int32.ofNat len)] 7)) (T7.setTop (mkF m 3 #[.val (.ref b), .val (.int (Int32.ofNat (o + i) + 1)), .val (.ref d), .val (.int (Int32.ofNat (q + i) + 1)), .val (.int (Int32.ofNat len)), .val (.int (Int32.ofNat i + 1)), .val (.int (cv A (o + i)))] [])) := c8.trans (by
        refine iincV X7.here hexec rfl 1 (hb hbytes d32) (by decide) rfl rfl ?_
        refine iincV X7.here hexec rfl 1 (hb hbytes d35) (by decide) rfl rfl ?_
        refine iincV X7.here hexec rfl 1 (hb hbytes d38) (by decide) rfl rfl ?_
        refine XS.goto X7.here hexec rfl (pc0 := 41) rfl (hb hbytes d41) (by decide) rfl ?_
        exact Steps.refl _)
      have c10 : Steps p.tables e below (s₁.setTop (entryFrame m #[.ref b, .int (Int32.ofNat o), .ref d, .int (Int32.ofNat q), .int (Int32.ofNat len)] 7)) (T7.setTop (mkF m 3 #[.val (.ref b), .val (.int (Int32.ofNat (o + (i + 1)))), .val (.ref d), .val (.int (Int32.ofNat (q + (i + 1)))), .val (.int (Int32.ofNat len)), .val (.int (Int32.ofNat (i + 1))), .val (.int (cv A (o + i)))] [])) := by
        have := c9
        rw [succ32, succ32, succ32] at this
        exact this
      exact ih (i + 1) (by omega) _ (Or.inr ⟨_, rfl, rfl⟩) T7 _ (by rw [copyLocs_step, ← List.append_assoc]; exact X7) (pl.trans p7) (fl.step (by omega) hlt (by simp)) c10
  obtain ⟨T9, B9, z9, X9, p9, f9, g9⟩ := loop len 0 (by omega) .unset (Or.inl rfl) s₁ B (by simpa [copyLocs] using X0) ⟨hB0.1, fun _ _ => rfl, rfl⟩ (Laid.zero _ _ _) c2
  have c11 : Steps p.tables e below (s₁.setTop (entryFrame m #[.ref b, .int (Int32.ofNat o), .ref d, .int (Int32.ofNat q), .int (Int32.ofNat len)] 7)) (T9.setTop (mkF m 46 #[.val (.ref b), .val (.int (Int32.ofNat (o + len))), .val (.ref d), .val (.int (Int32.ofNat (q + len))), .val (.int (Int32.ofNat len)), .val (.int (Int32.ofNat len)), z9] [.int (Int32.ofNat len)])) := g9.trans (by
    refine XS.iload X9.here hexec rfl (hb hbytes d3) rfl ?_
    refine XS.iload X9.here hexec rfl (hb hbytes d5) rfl ?_
    refine XS.icmpYes X9.here hexec rfl (pc0 := 7) rfl (hb hbytes d7) rfl (ii_ge_t (nlt32 (by omega) (Nat.le_refl _))) (by decide) rfl ?_
    refine XS.iload X9.here hexec rfl (hb hbytes d44) rfl ?_
    exact Steps.refl _)
  exact ⟨T9, some (.int (Int32.ofNat len)), _, _, _, X9, by simp, rfl, rfl, (fun h => by cases h), ⟨rfl, B9, p9.from hh0, f9⟩, fun fs hl => c11.trans (X9.ireturnOut hexec hret rfl (Or.inl rfl) (hb hbytes d46) hl)⟩
end Cmp5
namespace Cmp3
def yN : MethodName := ⟨"java/lang/StringUTF16", "compress", "([CII)[B"⟩
abbrev yB : ByteArray := jdk_52_method_16_code
theorem d0 : decode yB 0 = .ok (.iload_n 2, 1) := by decide +kernel
theorem d1 : decode yB 1 = .ok (.newarray .byte, 2) := by decide +kernel
theorem d3 : decode yB 3 = .ok (.astore_n 3, 1) := by decide +kernel
theorem d4 : decode yB 4 = .ok (.aload_n 0, 1) := by decide +kernel
theorem d5 : decode yB 5 = .ok (.iload_n 1, 1) := by decide +kernel
theorem d6 : decode yB 6 = .ok (.aload_n 3, 1) := by decide +kernel
theorem d7 : decode yB 7 = .ok (.iconst 0, 1) := by decide +kernel
theorem d8 : decode yB 8 = .ok (.iload_n 2, 1) := by decide +kernel
theorem d9 : decode yB 9 = .ok (.invokestatic 115, 3) := by decide +kernel
theorem d12 : decode yB 12 = .ok (.istore 4, 2) := by decide +kernel
theorem d14 : decode yB 14 = .ok (.iload 4, 2) := by decide +kernel
theorem d16 : decode yB 16 = .ok (.iload_n 2, 1) := by decide +kernel
theorem d17 : decode yB 17 = .ok (.if_icmp (.eq) 40, 3) := by decide +kernel
theorem d57 : decode yB 57 = .ok (.aload_n 3, 1) := by decide +kernel
theorem d58 : decode yB 58 = .ok (.areturn, 1) := by decide +kernel
def site : List Cond := [.arrayClass .byte, Cmp5.tab] ++ staticW U16 115 Cmp5.yN
def tab : Cond := tabOf yN yB 6 (some (.array .byte)) site
def P (b : Addr) (A : Cell) (o len : Nat) (args : Array Value) (s : State) : Prop := args = #[.ref b, .int (Int32.ofNat o), .int (Int32.ofNat len)] ∧ Ch b A s ∧ o + len ≤ A.slots.size ∧ len ≤ 536870912 ∧ ∀ i, i < len → ¬ 255 < cv A (o + i)
def E (b : Addr) (A : Cell) (o len : Nat) (r : Option Value) (s u : State) : Prop := NewArr .byte "[B" len (fun j => .int (lo8 (cv A (o + j)))) r s u ∧ u.heap.size = s.heap.size + 1
/-- no char of the range above 255: a new byte[] of their low bytes -/
theorem law (l : Launch) (b : Addr) (A : Cell) (o len : Nat) : Law l yN 3 3 1 18 yB 6 (some (.array .byte)) site (P b A o len) (E b A o len) [] 1 len := by
  refine Law.of_walk (plainFor_of_name (by decide +kernel)) (by decide +kernel) (by decide +kernel) (by decide) (fun _ _ h => by rw [h.1]; rfl) (fun _ U U' hal hh h => ⟨h.1, h.2.1.mv hal hh, h.2.2⟩) (fun r U U' V V' h1 hal h2 h => ⟨NewArr.mv r U U' V V' h1 hal h2 h.1, by rw [h1, h2]; exact h.2⟩) ?_
  intro p e s m args below meth c s₁ X0 hexec hbytes hml hret hlk hnm hown hh0 W hP
  obtain ⟨rfl, hA, l1, l2, hp⟩ := hP
  have a31 := hA.1.2.2.2
  have c1 : Steps p.tables e below (s₁.setTop (entryFrame m #[.ref b, .int (Int32.ofNat o), .int (Int32.ofNat len)] 6)) (s₁.setTop (mkF m 0 #[.val (.ref b), .val (.int (Int32.ofNat o)), .val (.int (Int32.ofNat len)), .unset, .unset, .unset] [])) := entry rfl
  have c2 : Steps p.tables e below (s₁.setTop (entryFrame m #[.ref b, .int (Int32.ofNat o), .int (Int32.ofNat len)] 6)) (s₁.setTop (mkF m 1 #[.val (.ref b), .val (.int (Int32.ofNat o)), .val (.int (Int32.ofNat len)), .unset, .unset, .unset] [.int (Int32.ofNat len)])) := c1.trans (by
    refine XS.iloadN X0.here hexec rfl (hb hbytes d0) rfl ?_
    exact Steps.refl _)
  obtain ⟨T3, B3, X3, ba3, bs3, bv3, bh3, bf3, st3⟩ := X0.anew hexec (atype := .byte) (wk W (.arrayClass .byte)) rfl (by show len * 1 ≤ _; omega) (by omega) (g := (mkF m 1 #[.val (.ref b), .val (.int (Int32.ofNat o)), .val (.int (Int32.ofNat len)), .unset, .unset, .unset] [.int (Int32.ofNat len)])) rfl (hb hbytes d1) (rest := []) rfl (Nat.le_refl _) (by show 0 + len ≤ len; omega)
  rw [hh0] at ba3 st3
  have kp3 : XT.Kept s T3 := (XT.Kept.of_eq hh0).push bh3
  have hA3 := hA.keep X3.warmed.alike (kp3 _ _ hA.1.1)
  have hne : b ≠ s.heap.size := hA.1.ne
  have c4 : Steps p.tables e below (s₁.setTop (entryFrame m #[.ref b, .int (Int32.ofNat o), .int (Int32.ofNat len)] 6)) (T3.setTop (mkF m 3 #[.val (.ref b), .val (.int (Int32.ofNat o)), .val (.int (Int32.ofNat len)), .unset, .unset, .unset] [.ref s.heap.size])) := c2.trans (st3 _ (Steps.refl _))
  have c5 : Steps p.tables e below (s₁.setTop (entryFrame m #[.ref b, .int (Int32.ofNat o), .int (Int32.ofNat len)] 6)) (T3.setTop (mkF m 9 #[.val (.ref b), .val (.int (Int32.ofNat o)), .val (.int (Int32.ofNat len)), .val (.ref s.heap.size), .unset, .unset] [.int (Int32.ofNat len), .int 0, .ref s.heap.size, .int (Int32.ofNat o), .ref b])) := c4.trans (by
    refine XS.astoreN X3.here hexec rfl (hb hbytes d3) rfl rfl rfl ?_
    refine XS.aloadN X3.here hexec rfl (hb hbytes d4) rfl rfl ?_
    refine XS.iloadN X3.here hexec rfl (hb hbytes d5) rfl ?_
    refine XS.aloadN X3.here hexec rfl (hb hbytes d6) rfl rfl ?_
    refine iconstV X3.here hexec rfl 0 (hb hbytes d7) (by decide) ?_
    refine XS.iloadN X3.here hexec rfl (hb hbytes d8) rfl ?_
    exact Steps.refl _)
  obtain ⟨v6, T6, X6, E6, g6⟩ := X3.callS hexec (Cmp5.law l b A s.heap.size B3 o 0 len) hown (wks W (staticW U16 115 Cmp5.yN)) (wk W Cmp5.tab) (W := 0) (Nat.le_of_ble_eq_true rfl) (Nat.le_of_ble_eq_true rfl) (Nat.le_refl _) (by show 0 + len + 0 ≤ len; omega) (g := (mkF m 9 #[.val (.ref b), .val (.int (Int32.ofNat o)), .val (.int (Int32.ofNat len)), .val (.ref s.heap.size), .unset, .unset] [.int (Int32.ofNat len), .int (Int32.ofNat 0), .ref s.heap.size, .int (Int32.ofNat o), .ref b])) rfl (by rw [hml]; rfl) c5 (argsL := [.ref b, .int (Int32.ofNat o), .ref s.heap.size, .int (Int32.ofNat 0), .int (Int32.ofNat len)]) (rest := []) rfl rfl (by show 2 * 0 + 0 ≤ _; decide) (hb hbytes d9) (⟨rfl, hA3, ba3, hne, l1, by rw [bs3]; simp, hp⟩)
  obtain ⟨rfl, B6, p6, f6⟩ := E6
  have c7 : Steps p.tables e below (s₁.setTop (entryFrame m #[.ref b, .int (Int32.ofNat o), .int (Int32.ofNat len)] 6)) (T6.setTop (mkF m 12 #[.val (.ref b), .val (.int (Int32.ofNat o)), .val (.int (Int32.ofNat len)), .val (.ref s.heap.size), .unset, .unset] [.int (Int32.ofNat len)])) := g6
  have c8 : Steps p.tables e below (s₁.setTop (entryFrame m #[.ref b, .int (Int32.ofNat o), .int (Int32.ofNat len)] 6)) (T6.setTop (mkF m 58 #[.val (.ref b), .val (.int (Int32.ofNat o)), .val (.int (Int32.ofNat len)), .val (.ref s.heap.size), .val (.int (Int32.ofNat len)), .unset] [.ref s.heap.size])) := c7.trans (by
    refine XS.istore X6.here hexec rfl (hb hbytes d12) rfl rfl ?_
    refine XS.iload X6.here hexec rfl (hb hbytes d14) rfl ?_
    refine XS.iloadN X6.here hexec rfl (hb hbytes d16) rfl ?_
    refine XS.icmpYes X6.here hexec rfl (pc0 := 17) rfl (hb hbytes d17) rfl (ii_eq_t rfl) (by decide) rfl ?_
    refine XS.aloadN X6.here hexec rfl (hb hbytes d57) rfl rfl ?_
    exact Steps.refl _)
  have X8 := X6.wide (L' := []) (cells' := 1) (slots' := len) (fun x hx hlt => by
    simp only [List.nil_append, copyLocs, List.mem_map, List.mem_range] at hx
    obtain ⟨i, -, rfl⟩ := hx
    exact absurd hlt (Nat.lt_irrefl _)) (Nat.le_refl _) (by omega)
  exact ⟨T6, some (.ref s.heap.size), _, _, _, X8, rfl, rfl, rfl, (fun h => by cases h), ⟨⟨rfl, B6, ba3.like (X3.warmed.alike.symm.trans X6.warmed.alike) p6.1 f6.1 f6.2.1 f6.2.2.1, f6.2.1.trans bv3, by rw [X6.warmed.alike.findClass, f6.1]; exact bf3, by rw [f6.2.2.1, bs3]; simp, fun j hj => by rw [f6.2.2.2 j, if_pos (by omega)]; rfl, kp3.put p6 (Nat.le_refl _)⟩, by rw [p6.2.2, bh3, hh0]; simp⟩, fun fs hl => c8.trans (X8.areturnOut hexec rfl hret rfl (hb hbytes d58) hl)⟩
end Cmp3
namespace CodL
def yN : MethodName := ⟨"java/lang/StringUTF16", "coderFromArrayLen", "([BI)B"⟩
abbrev yB : ByteArray := jdk_52_method_15_code
theorem d0 : decode yB 0 = .ok (.iload_n 1, 1) := by decide +kernel
theorem d1 : decode yB 1 = .ok (.aload_n 0, 1) := by decide +kernel
theorem d2 : decode yB 2 = .ok (.arraylength, 1) := by decide +kernel
theorem d3 : decode yB 3 = .ok (.isub, 1) := by decide +kernel
theorem d4 : decode yB 4 = .ok (.bipush 31, 2) := by decide +kernel
theorem d6 : decode yB 6 = .ok (.iushr, 1) := by decide +kernel
theorem d7 : decode yB 7 = .ok (.i2b, 1) := by decide +kernel
theorem d8 : decode yB 8 = .ok (.ireturn, 1) := by decide +kernel
def site : List Cond := []
def tab : Cond := tabOf yN yB 2 (some .byte) site
def P (d : Addr) (B : Cell) (args : Array Value) (s : State) : Prop := args = #[.ref d, .int (Int32.ofNat B.slots.size)] ∧ Arr .byte d B s
def E (r : Option Value) (s u : State) : Prop := XT.PureE (some (.int 0)) r s u
/-- an array as long as the number of chars: LATIN1 -/
theorem law (l : Launch) (d : Addr) (B : Cell) : Law l yN 2 2 0 0 yB 2 (some .byte) site (P d B) E [] 0 0 := by
  refine Law.of_walk (plainFor_of_name (by decide +kernel)) (by decide +kernel) (by decide +kernel) (by decide) (fun _ _ h => by rw [h.1]; rfl) (fun _ U U' hal hh h => ⟨h.1, h.2.mv hal hh⟩) (fun r U U' V V' h1 hal h2 h => XT.PureE.mv r U U' V V' h1 hal h2 h) ?_
  intro p e s m args below meth c s₁ X0 hexec hbytes hml hret hlk hnm hown hh0 W hP
  obtain ⟨rfl, hB⟩ := hP
  have hB0 := hB.mv X0.warmed.alike hh0
  have c1 : Steps p.tables e below (s₁.setTop (entryFrame m #[.ref d, .int (Int32.ofNat B.slots.size)] 2)) (s₁.setTop (mkF m 0 #[.val (.ref d), .val (.int (Int32.ofNat B.slots.size))] [])) := entry rfl
  have c2 : Steps p.tables e below (s₁.setTop (entryFrame m #[.ref d, .int (Int32.ofNat B.slots.size)] 2)) (s₁.setTop (mkF m 2 #[.val (.ref d), .val (.int (Int32.ofNat B.slots.size))] [.ref d, .int (Int32.ofNat B.slots.size)])) := c1.trans (by
    refine XS.iloadN X0.here hexec rfl (hb hbytes d0) rfl ?_
    refine XS.aloadN X0.here hexec rfl (hb hbytes d1) rfl rfl ?_
    exact Steps.refl _)
  have c3 : Steps p.tables e below (s₁.setTop (entryFrame m #[.ref d, .int (Int32.ofNat B.slots.size)] 2)) (s₁.setTop (mkF m 8 #[.val (.ref d), .val (.int (Int32.ofNat B.slots.size))] [.int (lo8 (ushr (Int32.ofNat B.slots.size - Int32.ofNat B.slots.size) 31))])) := c2.trans (by
    refine X0.alen hexec hB0 rfl rfl (hb hbytes d2) ?_
    refine XS.isub X0.here hexec rfl (hb hbytes d3) rfl ?_
    refine bipushV X0.here hexec rfl 31 (hb hbytes d4) (by decide) ?_
    refine iushr X0.here hexec rfl (hb hbytes d6) rfl ?_
    refine i2b X0.here hexec rfl (hb hbytes d7) rfl ?_
    exact Steps.refl _)
  have e0 : lo8 (ushr (Int32.ofNat B.slots.size - Int32.ofNat B.slots.size) 31) = 0 := by rw [Int32.sub_self]; decide
  rw [e0] at c3
  exact ⟨s₁, some (.int 0), _, _, _, X0, rfl, rfl, rfl, (fun h => by cases h), ⟨rfl, hh0⟩, fun fs hl => c3.trans (X0.ireturnOut hexec hret rfl (Or.inr (Or.inr (Or.inl rfl))) (hb hbytes d8) hl)⟩
end CodL
/-- the String at a is Latin-1 over a new byte[] (the heap's one new cell): the low bytes of the len chars of A from o on; every cell but a is kept -/
def Got (a : Addr) (D : Cell) (fV fC : Field) (A : Cell) (o len : Nat) (r : Option Value) (s u : State) : Prop := r = none ∧ ∃ D' V : Cell, Blank "java/lang/String" a D' u ∧ Same D D' [fV.slot, fC.slot] ∧ D'.slots[fV.slot]? = some (.ref s.heap.size) ∧ D'.slots[fC.slot]? = some (.int 0) ∧ Arr .byte s.heap.size V u ∧ V.vm = .none ∧ u.vm.findClass "[B" = some V.cls ∧ V.slots.size = len ∧ (∀ j, j < len → V.slots[j]? = some (.int (lo8 (cv A (o + j))))) ∧ (∀ (y : Addr) (c : Cell), y ≠ a → s.heap[y]? = some c → u.heap[y]? = some c) ∧ u.heap.size = s.heap.size + 1
theorem Got.mv {a : Addr} {D A : Cell} {fV fC : Field} {o len : Nat} : ∀ r (U U' V V' : State), U'.heap = U.heap → V.vm.Alike V'.vm → V'.heap = V.heap → Got a D fV fC A o len r U V → Got a D fV fC A o len r U' V' :=
  fun r U U' V V' h1 hal h2 ⟨e0, D', X, a1, a2, a3, a4, a5, a6, a7, a8, a9, a10, a11⟩ => ⟨e0, D', X, a1.mv hal h2, a2, by rw [h1]; exact a3, a4, by rw [h1]; exact a5.mv hal h2, a6, by rw [hal.findClass]; exact a7, a8, a9, by rw [h1, h2]; exact a10, by rw [h1, h2]; exact a11⟩
namespace New4
def yN : MethodName := ⟨"java/lang/String", "<init>", "([CIILjava/lang/Void;)V"⟩
abbrev yB : ByteArray := jdk_42_method_149_code
theorem d0 : decode yB 0 = .ok (.aload_n 0, 1) := by decide +kernel
theorem d1 : decode yB 1 = .ok (.invokespecial 1, 3) := by decide +kernel
theorem d4 : decode yB 4 = .ok (.iload_n 3, 1) := by decide +kernel
theorem d5 : decode yB 5 = .ok (.ifCond (.ne) 22, 3) := by decide +kernel
theorem d27 : decode yB 27 = .ok (.getstatic 38, 3) := by decide +kernel
theorem d30 : decode yB 30 = .ok (.ifCond (.eq) 28, 3) := by decide +kernel
theorem d33 : decode yB 33 = .ok (.aload_n 1, 1) := by decide +kernel
theorem d34 : decode yB 34 = .ok (.iload_n 2, 1) := by decide +kernel
theorem d35 : decode yB 35 = .ok (.iload_n 3, 1) := by decide +kernel
theorem d36 : decode yB 36 = .ok (.invokestatic 177, 3) := by decide +kernel
theorem d39 : decode yB 39 = .ok (.astore 5, 2) := by decide +kernel
theorem d41 : decode yB 41 = .ok (.aload_n 0, 1) := by decide +kernel
theorem d42 : decode yB 42 = .ok (.aload 5, 2) := by decide +kernel
theorem d44 : decode yB 44 = .ok (.iload_n 3, 1) := by decide +kernel
theorem d45 : decode yB 45 = .ok (.invokestatic 47, 3) := by decide +kernel
theorem d48 : decode yB 48 = .ok (.putfield 15, 3) := by decide +kernel
theorem d51 : decode yB 51 = .ok (.aload_n 0, 1) := by decide +kernel
theorem d52 : decode yB 52 = .ok (.aload 5, 2) := by decide +kernel
theorem d54 : decode yB 54 = .ok (.putfield 9, 3) := by decide +kernel
theorem d57 : decode yB 57 = .ok (.return_, 1) := by decide +kernel
def site : List Cond := [.fieldLink "java/lang/String" 38 "java/lang/String" "COMPACT_STRINGS" "Z", Cmp3.tab, CodL.tab, .laysFinal "java/lang/String" "java/lang/String" "value" "[B", .fieldLink "java/lang/String" 9 "java/lang/String" "value" "[B", .laysFinal "java/lang/String" "java/lang/String" "coder" "B", .fieldLink "java/lang/String" 15 "java/lang/String" "coder" "B"] ++ objW "java/lang/String" 1 ++ staticW "java/lang/String" 177 Cmp3.yN ++ staticW "java/lang/String" 47 CodL.yN
def tab : Cond := tabOf yN yB 6 none site
def P (a : Addr) (D : Cell) (fV fC : Field) (b : Addr) (A : Cell) (z : Int32) (o len : Nat) (args : Array Value) (s : State) : Prop := args = #[.ref a, .ref b, .int (Int32.ofNat o), .int (Int32.ofNat len), .null] ∧ Blank "java/lang/String" a D s ∧ Found "java/lang/String" "value" "[B" fV s ∧ Found "java/lang/String" "coder" "B" fC s ∧ Ch b A s ∧ StaticIs s "java/lang/String" "COMPACT_STRINGS" "Z" (.int z) ∧ ¬ z = 0 ∧ 0 < len ∧ o + len ≤ A.slots.size ∧ len ≤ 536870912 ∧ ∀ i, i < len → ¬ 255 < cv A (o + i)
def E (a : Addr) (D : Cell) (fV fC : Field) (A : Cell) (o len : Nat) (r : Option Value) (s u : State) : Prop := Got a D fV fC A o len r s u
/-- len > 0, no char of the range above 255: a Latin-1 String of their low bytes -/
theorem law (l : Launch) (a : Addr) (D : Cell) (fV fC : Field) (b : Addr) (A : Cell) (z : Int32) (o len : Nat) : Law l yN 5 4 2 35 yB 6 none site (P a D fV fC b A z o len) (E a D fV fC A o len) [⟨a, fC.slot⟩, ⟨a, fV.slot⟩] 1 len := by
  refine Law.of_walk (plainFor_of_name (by decide +kernel)) (by decide +kernel) (by decide +kernel) (by decide) (fun _ _ h => by rw [h.1]; rfl) (fun _ U U' hal hh h => ⟨h.1, h.2.1.mv hal hh, h.2.2.1.al hal, h.2.2.2.1.al hal, h.2.2.2.2.1.mv hal hh, h.2.2.2.2.2.1.there hal hh, h.2.2.2.2.2.2⟩) (fun r U U' V V' h1 hal h2 h => Got.mv r U U' V V' h1 hal h2 h) ?_
  intro p e s m args below meth c s₁ X0 hexec hbytes hml hret hlk hnm hown hh0 W hP
  obtain ⟨rfl, hB, f1, f2, hA, s1, hz, l0, l1, l2, hp⟩ := hP
  have a31 := hA.1.2.2.2
  have c1 : Steps p.tables e below (s₁.setTop (entryFrame m #[.ref a, .ref b, .int (Int32.ofNat o), .int (Int32.ofNat len), .null] 6)) (s₁.setTop (mkF m 0 #[.val (.ref a), .val (.ref b), .val (.int (Int32.ofNat o)), .val (.int (Int32.ofNat len)), .val .null, .unset] [])) := entry rfl
  have c2 : Steps p.tables e below (s₁.setTop (entryFrame m #[.ref a, .ref b, .int (Int32.ofNat o), .int (Int32.ofNat len), .null] 6)) (s₁.setTop (mkF m 1 #[.val (.ref a), .val (.ref b), .val (.int (Int32.ofNat o)), .val (.int (Int32.ofNat len)), .val .null, .unset] [.ref a])) := c1.trans (by
    refine XS.aloadN X0.here hexec rfl (hb hbytes d0) rfl rfl ?_
    exact Steps.refl _)
  obtain ⟨T3, X3, q3, st3⟩ := X0.oinit hexec hown (wks W (objW "java/lang/String" 1)) (g := (mkF m 1 #[.val (.ref a), .val (.ref b), .val (.int (Int32.ofNat o)), .val (.int (Int32.ofNat len)), .val .null, .unset] [.ref a])) rfl (by rw [hml]; rfl) (rest := []) rfl (hb hbytes d1) (W := 0) (by show 2 * 0 + 0 ≤ _; decide) (Nat.le_of_ble_eq_true rfl) (Nat.le_of_ble_eq_true rfl)
  have hh3 := q3.trans hh0
  have c4 : Steps p.tables e below (s₁.setTop (entryFrame m #[.ref a, .ref b, .int (Int32.ofNat o), .int (Int32.ofNat len), .null] 6)) (T3.setTop (mkF m 27 #[.val (.ref a), .val (.ref b), .val (.int (Int32.ofNat o)), .val (.int (Int32.ofNat len)), .val .null, .unset] [])) := (c2.trans (st3 _ (Steps.refl _))).trans (by
    refine XS.iloadN X3.here hexec rfl (hb hbytes d4) rfl ?_
    refine XS.ifYes X3.here hexec rfl (pc0 := 5) rfl (hb hbytes d5) rfl (i0_ne_t (nz32 (by omega) l0)) (by decide) rfl ?_
    exact Steps.refl _)
  obtain ⟨T5, X5, q5, st5⟩ := X3.sget hexec hown (wk W (.fieldLink "java/lang/String" 38 "java/lang/String" "COMPACT_STRINGS" "Z")) s1 (fun _ _ h => by rw [hh3]; exact h) (g := (mkF m 27 #[.val (.ref a), .val (.ref b), .val (.int (Int32.ofNat o)), .val (.int (Int32.ofNat len)), .val .null, .unset] [])) rfl (hb hbytes d27)
  have hh5 := q5.trans hh3
  have c6 : Steps p.tables e below (s₁.setTop (entryFrame m #[.ref a, .ref b, .int (Int32.ofNat o), .int (Int32.ofNat len), .null] 6)) (T5.setTop (mkF m 30 #[.val (.ref a), .val (.ref b), .val (.int (Int32.ofNat o)), .val (.int (Int32.ofNat len)), .val .null, .unset] [.int z])) := c4.trans (st5 _ (Steps.refl _))
  have c7 : Steps p.tables e below (s₁.setTop (entryFrame m #[.ref a, .ref b, .int (Int32.ofNat o), .int (Int32.ofNat len), .null] 6)) (T5.setTop (mkF m 36 #[.val (.ref a), .val (.ref b), .val (.int (Int32.ofNat o)), .val (.int (Int32.ofNat len)), .val .null, .unset] [.int (Int32.ofNat len), .int (Int32.ofNat o), .ref b])) := c6.trans (by
    refine XS.ifNo X5.here hexec rfl (hb hbytes d30) rfl (i0_eq_f hz) ?_
    refine XS.aloadN X5.here hexec rfl (hb hbytes d33) rfl rfl ?_
    refine XS.iloadN X5.here hexec rfl (hb hbytes d34) rfl ?_
    refine XS.iloadN X5.here hexec rfl (hb hbytes d35) rfl ?_
    exact Steps.refl _)
  obtain ⟨v8, T8, X8, E8, g8⟩ := X5.callS hexec (Cmp3.law l b A o len) hown (wks W (staticW "java/lang/String" 177 Cmp3.yN)) (wk W Cmp3.tab) (W := 0) (Nat.le_of_ble_eq_true rfl) (Nat.le_of_ble_eq_true rfl) (Nat.le_refl _) (by show 0 + len ≤ len; omega) (g := (mkF m 36 #[.val (.ref a), .val (.ref b), .val (.int (Int32.ofNat o)), .val (.int (Int32.ofNat len)), .val .null, .unset] [.int (Int32.ofNat len), .int (Int32.ofNat o), .ref b])) rfl (by rw [hml]; rfl) c7 (argsL := [.ref b, .int (Int32.ofNat o), .int (Int32.ofNat len)]) (rest := []) rfl rfl (by show 2 * 0 + 0 ≤ _; decide) (hb hbytes d36) (⟨rfl, hA.mv X5.warmed.alike hh5, l1, l2, hp⟩)
  obtain ⟨e8, z8⟩ := E8
  obtain ⟨rfl, N, n1, n2, n3, n4, n5, n6⟩ := NewArr.mv _ T5 s _ _ hh5.symm (Vm.Alike.refl _) rfl e8
  rw [hh5] at z8
  have hB1 := hB.keep X8.warmed.alike (n6 _ _ hB.1)
  have hne : s.heap.size ≠ a := (Nat.ne_of_lt (Array.getElem?_eq_some_iff.mp hB.1).1).symm
  have c9 : Steps p.tables e below (s₁.setTop (entryFrame m #[.ref a, .ref b, .int (Int32.ofNat o), .int (Int32.ofNat len), .null] 6)) (T8.setTop (mkF m 39 #[.val (.ref a), .val (.ref b), .val (.int (Int32.ofNat o)), .val (.int (Int32.ofNat len)), .val .null, .unset] [.ref s.heap.size])) := g8
  have c10 : Steps p.tables e below (s₁.setTop (entryFrame m #[.ref a, .ref b, .int (Int32.ofNat o), .int (Int32.ofNat len), .null] 6)) (T8.setTop (mkF m 45 #[.val (.ref a), .val (.ref b), .val (.int (Int32.ofNat o)), .val (.int (Int32.ofNat len)), .val .null, .val (.ref s.heap.size)] [.int (Int32.ofNat N.slots.size), .ref s.heap.size, .ref a])) := by
    have hc : Steps p.tables e below (s₁.setTop (entryFrame m #[.ref a, .ref b, .int (Int32.ofNat o), .int (Int32.ofNat len), .null] 6)) (T8.setTop (mkF m 45 #[.val (.ref a), .val (.ref b), .val (.int (Int32.ofNat o)), .val (.int (Int32.ofNat len)), .val .null, .val (.ref s.heap.size)] [.int (Int32.ofNat len), .ref s.heap.size, .ref a])) := c9.trans (by
      refine XS.astore X8.here hexec rfl (hb hbytes d39) rfl rfl rfl ?_
      refine XS.aloadN X8.here hexec rfl (hb hbytes d41) rfl rfl ?_
      refine XS.aload X8.here hexec rfl (hb hbytes d42) rfl rfl ?_
      refine XS.iloadN X8.here hexec rfl (hb hbytes d44) rfl ?_
      exact Steps.refl _)
    rw [n4]; exact hc
  obtain ⟨v11, T11, X11, E11, g11⟩ := X8.callS hexec (CodL.law l s.heap.size N) hown (wks W (staticW "java/lang/String" 47 CodL.yN)) (wk W CodL.tab) (W := 1) (Nat.le_of_ble_eq_true rfl) (Nat.le_of_ble_eq_true rfl) (Nat.le_refl _) (by show 0 + len + 0 ≤ len; omega) (g := (mkF m 45 #[.val (.ref a), .val (.ref b), .val (.int (Int32.ofNat o)), .val (.int (Int32.ofNat len)), .val .null, .val (.ref s.heap.size)] [.int (Int32.ofNat N.slots.size), .ref s.heap.size, .ref a])) rfl (by rw [hml]; rfl) c10 (argsL := [.ref s.heap.size, .int (Int32.ofNat N.slots.size)]) (rest := [.ref a]) rfl rfl (by show 2 * 0 + (1 + 0) ≤ _; decide) (hb hbytes d45) (⟨rfl, n1⟩)
  obtain ⟨rfl, q11⟩ := E11
  have hB11 := hB1.mv (X8.warmed.alike.symm.trans X11.warmed.alike) q11
  have c12 : Steps p.tables e below (s₁.setTop (entryFrame m #[.ref a, .ref b, .int (Int32.ofNat o), .int (Int32.ofNat len), .null] 6)) (T11.setTop (mkF m 48 #[.val (.ref a), .val (.ref b), .val (.int (Int32.ofNat o)), .val (.int (Int32.ofNat len)), .val .null, .val (.ref s.heap.size)] [.int 0, .ref a])) := g11
  obtain ⟨T13, X13, p13, bl13, sl13, st13⟩ := X11.finit hexec hown (wk W (.fieldLink "java/lang/String" 15 "java/lang/String" "coder" "B")) (Or.inr ⟨_, (wk W (.laysFinal "java/lang/String" "java/lang/String" "coder" "B"))⟩) (Or.inl ⟨rfl, hnm⟩) f2 (Or.inl rfl) hB11 (t := .byte) (by decide +kernel) rfl (g := (mkF m 48 #[.val (.ref a), .val (.ref b), .val (.int (Int32.ofNat o)), .val (.int (Int32.ofNat len)), .val .null, .val (.ref s.heap.size)] [.int 0, .ref a])) rfl (rest := []) rfl (hb hbytes d48)
  have c14 : Steps p.tables e below (s₁.setTop (entryFrame m #[.ref a, .ref b, .int (Int32.ofNat o), .int (Int32.ofNat len), .null] 6)) (T13.setTop (mkF m 54 #[.val (.ref a), .val (.ref b), .val (.int (Int32.ofNat o)), .val (.int (Int32.ofNat len)), .val .null, .val (.ref s.heap.size)] [.ref s.heap.size, .ref a])) := (c12.trans (st13 _ (Steps.refl _))).trans (by
    refine XS.aloadN X13.here hexec rfl (hb hbytes d51) rfl rfl ?_
    refine XS.aload X13.here hexec rfl (hb hbytes d52) rfl rfl ?_
    exact Steps.refl _)
  obtain ⟨T15, X15, p15, bl15, sl15, st15⟩ := X13.finit hexec hown (wk W (.fieldLink "java/lang/String" 9 "java/lang/String" "value" "[B")) (Or.inr ⟨_, (wk W (.laysFinal "java/lang/String" "java/lang/String" "value" "[B"))⟩) (Or.inl ⟨rfl, hnm⟩) f1 (Or.inl rfl) bl13 (t := (.array .byte)) (by decide +kernel) rfl (g := (mkF m 54 #[.val (.ref a), .val (.ref b), .val (.int (Int32.ofNat o)), .val (.int (Int32.ofNat len)), .val .null, .val (.ref s.heap.size)] [.ref s.heap.size, .ref a])) rfl (rest := []) rfl (hb hbytes d54)
  have c16 : Steps p.tables e below (s₁.setTop (entryFrame m #[.ref a, .ref b, .int (Int32.ofNat o), .int (Int32.ofNat len), .null] 6)) (T15.setTop (mkF m 57 #[.val (.ref a), .val (.ref b), .val (.int (Int32.ofNat o)), .val (.int (Int32.ofNat len)), .val .null, .val (.ref s.heap.size)] [])) := c14.trans (st15 _ (Steps.refl _))
  have ap := apart (Or.inr ⟨_, (wk W (.laysFinal "java/lang/String" "java/lang/String" "value" "[B"))⟩) (Or.inr ⟨_, (wk W (.laysFinal "java/lang/String" "java/lang/String" "coder" "B"))⟩) f1 f2 (t₁ := .array .byte) (t₂ := .byte) (by decide +kernel) (by decide +kernel) (by decide)
  have al := X8.warmed.alike.symm.trans X15.warmed.alike
  have n7 : T11.heap[s.heap.size]? = some N := by rw [q11]; exact n1.1
  exact ⟨T15, none, _, _, _, X15, by simp, rfl, by omega, (fun _ => rfl), ⟨rfl, _, N, bl15, ((Same.refl D _).set _ (by simp)).set _ (by simp), sl15, (Cell.slots_setSlot_ne _ ap).trans sl13, n1.keep al (p15.other hne (p13.other hne n7)), n2, by rw [al.findClass]; exact n3, n4, n5, fun y c h1 h2 => p15.other h1 (p13.other h1 (by rw [q11]; exact n6 y c h2)), by rw [p15.2.2, p13.2.2, q11]; exact z8⟩, fun fs hl => c16.trans (X15.returnOut hexec hret (hb hbytes d57) hl)⟩
end New4
namespace New1
def yN : MethodName := ⟨"java/lang/String", "<init>", "([C)V"⟩
abbrev yB : ByteArray := jdk_42_method_3_code
theorem d0 : decode yB 0 = .ok (.aload_n 0, 1) := by decide +kernel
theorem d1 : decode yB 1 = .ok (.aload_n 1, 1) := by decide +kernel
theorem d2 : decode yB 2 = .ok (.iconst 0, 1) := by decide +kernel
theorem d3 : decode yB 3 = .ok (.aload_n 1, 1) := by decide +kernel
theorem d4 : decode yB 4 = .ok (.arraylength, 1) := by decide +kernel
theorem d5 : decode yB 5 = .ok (.aconst_null, 1) := by decide +kernel
theorem d6 : decode yB 6 = .ok (.invokespecial 27, 3) := by decide +kernel
theorem d9 : decode yB 9 = .ok (.return_, 1) := by decide +kernel
def site : List Cond := [New4.tab] ++ initW "java/lang/String" 27 New4.yN
def tab : Cond := tabOf yN yB 2 none site
def P (a : Addr) (D : Cell) (fV fC : Field) (b : Addr) (A : Cell) (z : Int32) (args : Array Value) (s : State) : Prop := args = #[.ref a, .ref b] ∧ Blank "java/lang/String" a D s ∧ Found "java/lang/String" "value" "[B" fV s ∧ Found "java/lang/String" "coder" "B" fC s ∧ Ch b A s ∧ StaticIs s "java/lang/String" "COMPACT_STRINGS" "Z" (.int z) ∧ ¬ z = 0 ∧ 0 < A.slots.size ∧ A.slots.size ≤ 536870912 ∧ ∀ i, i < A.slots.size → ¬ 255 < cv A i
def E (a : Addr) (D : Cell) (fV fC : Field) (A : Cell) (r : Option Value) (s u : State) : Prop := Got a D fV fC A 0 A.slots.size r s u
/-- new String(chars), not empty, no char above 255: a Latin-1 String of their low bytes -/
theorem law (l : Launch) (a : Addr) (D : Cell) (fV fC : Field) (b : Addr) (A : Cell) (z : Int32) : Law l yN 2 1 3 52 yB 2 none site (P a D fV fC b A z) (E a D fV fC A) [⟨a, fC.slot⟩, ⟨a, fV.slot⟩] 1 A.slots.size := by
  refine Law.of_walk (plainFor_of_name (by decide +kernel)) (by decide +kernel) (by decide +kernel) (by decide) (fun _ _ h => by rw [h.1]; rfl) (fun _ U U' hal hh h => ⟨h.1, h.2.1.mv hal hh, h.2.2.1.al hal, h.2.2.2.1.al hal, h.2.2.2.2.1.mv hal hh, h.2.2.2.2.2.1.there hal hh, h.2.2.2.2.2.2⟩) (fun r U U' V V' h1 hal h2 h => Got.mv r U U' V V' h1 hal h2 h) ?_
  intro p e s m args below meth c s₁ X0 hexec hbytes hml hret hlk hnm hown hh0 W hP
  obtain ⟨rfl, hB, f1, f2, hA, s1, hz, l0, l2, hp⟩ := hP
  have c1 : Steps p.tables e below (s₁.setTop (entryFrame m #[.ref a, .ref b] 2)) (s₁.setTop (mkF m 0 #[.val (.ref a), .val (.ref b)] [])) := entry rfl
  have c2 : Steps p.tables e below (s₁.setTop (entryFrame m #[.ref a, .ref b] 2)) (s₁.setTop (mkF m 6 #[.val (.ref a), .val (.ref b)] [.null, .int (Int32.ofNat A.slots.size), .int 0, .ref b, .ref a])) := c1.trans (by
    refine XS.aloadN X0.here hexec rfl (hb hbytes d0) rfl rfl ?_
    refine XS.aloadN X0.here hexec rfl (hb hbytes d1) rfl rfl ?_
    refine iconstV X0.here hexec rfl 0 (hb hbytes d2) (by decide) ?_
    refine XS.aloadN X0.here hexec rfl (hb hbytes d3) rfl rfl ?_
    refine X0.alen hexec (hA.1.mv X0.warmed.alike hh0) rfl rfl (hb hbytes d4) ?_
    refine XS.aconstNull X0.here hexec rfl (hb hbytes d5) ?_
    exact Steps.refl _)
  obtain ⟨v3, T3, X3, E3, g3⟩ := X0.callN hexec (New4.law l a D fV fC b A z 0 A.slots.size) rfl hown (wks W (initW "java/lang/String" 27 New4.yN)) (W New4.tab (by simp only [site, List.mem_cons, List.mem_append, true_or, or_true])) (W := 0) (Nat.le_of_ble_eq_true rfl) (Nat.le_of_ble_eq_true rfl) (Nat.le_refl _) (by show 0 + A.slots.size ≤ A.slots.size; omega) (g := (mkF m 6 #[.val (.ref a), .val (.ref b)] [.null, .int (Int32.ofNat A.slots.size), .int (Int32.ofNat 0), .ref b, .ref a])) rfl (by rw [hml]; rfl) c2 (argsL := [.ref b, .int (Int32.ofNat 0), .int (Int32.ofNat A.slots.size), .null]) (rest := []) rfl rfl (by show 2 * 0 + 0 ≤ _; decide) (hb hbytes d6) (⟨rfl, hB.mv X0.warmed.alike hh0, f1.al X0.warmed.alike, f2.al X0.warmed.alike, hA.mv X0.warmed.alike hh0, s1.there X0.warmed.alike hh0, hz, l0, by omega, l2, fun i hi => by rw [Nat.zero_add]; exact hp i hi⟩)
  have e0 := Got.mv _ s₁ s _ _ hh0.symm (Vm.Alike.refl _) rfl E3
  obtain rfl := e0.1
  have c4 : Steps p.tables e below (s₁.setTop (entryFrame m #[.ref a, .ref b] 2)) (T3.setTop (mkF m 9 #[.val (.ref a), .val (.ref b)] [])) := g3
  exact ⟨T3, none, _, _, _, X3, by simp, rfl, by omega, (fun _ => rfl), e0, fun fs hl => c4.trans (X3.returnOut hexec hret (hb hbytes d9) hl)⟩
theorem pays {l : Launch} {R : Room} {p : Program} {e : Env} {below : List Frame} {s : State} {sargs : Array Value} {len W : Nat} (a : Addr) (D : Cell) (fV fC : Field) (b : Addr) (A : Cell) (z : Int32) (htab : tab.before sargs s = true) (hfr : 4 ≤ R.frames) (hlo : W + 65 ≤ R.locals) :
    Back l R p e below s sargs yN len W (fun A₁ a₁ => A₁.cells + 1 ≤ R.cells ∧ A₁.slots + A.slots.size ≤ R.slots ∧ P a D fV fC b A z a₁ A₁.U) (fun A₁ _ v₁ B₁ => E a D fV fC A v₁ A₁.U B₁.U ∧ B₁.locs = A₁.locs ++ [⟨a, fC.slot⟩, ⟨a, fV.slot⟩] ∧ B₁.cells = A₁.cells + 1 ∧ B₁.slots = A₁.slots + A.slots.size) :=
  (law l a D fV fC b A z).pays htab hfr (by omega)
end New1
end StrChars
namespace StrChars.Road
open Jvm Sem ClassFile Op Lib Jvm.Stand Jvm.Free Jvm.Free.XT
open Jvm.Lib.Cold (StaticIs)
abbrev ST : String := "java/lang/String"
/-- every table word that New1's law asks, flat -/
abbrev words : List Jvm.Cond := [.code New1.yN New1.yB 2 none, .initialized ST, .methodLink ST 27 New4.yN, .instanceMethod New4.yN,
  .code New4.yN New4.yB 6 none, .fieldLink ST 38 ST "COMPACT_STRINGS" "Z", .laysFinal ST ST "value" "[B", .fieldLink ST 9 ST "value" "[B", .laysFinal ST ST "coder" "B", .fieldLink ST 15 ST "coder" "B",
  .methodLink ST 1 Lib.objectInit, .instanceMethod Lib.objectInit, .code Lib.objectInit ⟨#[0xb1]⟩ 1 none, .methodLink ST 177 Cmp3.yN, .static Cmp3.yN, .methodLink ST 47 CodL.yN, .static CodL.yN,
  .code Cmp3.yN Cmp3.yB 6 (some (.array .byte)), .initialized U16, .arrayClass .byte, .methodLink U16 115 Cmp5.yN, .static Cmp5.yN, .code Cmp5.yN Cmp5.yB 7 (some .int), .code CodL.yN CodL.yB 2 (some .byte)]
theorem tab_of {a : Array Value} {s : State} (h : ∀ w ∈ words, w.before a s = true) : New1.tab.before a s = true := by
  have h5 : Cmp5.tab.before a s = true := unparts (wk h (.code Cmp5.yN Cmp5.yB 7 (some .int))) (wks h (.initialized Cmp5.yN.cls :: Cmp5.site))
  have hc : CodL.tab.before a s = true := unparts (wk h (.code CodL.yN CodL.yB 2 (some .byte))) (wks h (.initialized CodL.yN.cls :: CodL.site))
  have q5 : ∀ w ∈ Cmp5.tab :: words, w.before a s = true := fun w hw => (List.mem_cons.mp hw).elim (fun e => e ▸ h5) (h w)
  have h3 : Cmp3.tab.before a s = true := unparts (wk q5 (.code Cmp3.yN Cmp3.yB 6 (some (.array .byte)))) (wks q5 (.initialized Cmp3.yN.cls :: Cmp3.site))
  have q3 : ∀ w ∈ Cmp3.tab :: CodL.tab :: words, w.before a s = true := fun w hw => (List.mem_cons.mp hw).elim (fun e => e ▸ h3) fun hw => (List.mem_cons.mp hw).elim (fun e => e ▸ hc) (h w)
  have h4 : New4.tab.before a s = true := unparts (wk q3 (.code New4.yN New4.yB 6 none)) (wks q3 (.initialized New4.yN.cls :: New4.site))
  have q4 : ∀ w ∈ New4.tab :: words, w.before a s = true := fun w hw => (List.mem_cons.mp hw).elim (fun e => e ▸ h4) (h w)
  exact unparts (wk q4 (.code New1.yN New1.yB 2 none)) (wks q4 (.initialized New1.yN.cls :: New1.site))
/-- the words ride from the start Z to the walk's own state -/
theorem moved {Z s : State} {a0 args : Array Value} (hZ : Z.Warmed39 s.vm) (hw : ∀ d ∈ words, d.before a0 Z = true) : ∀ d ∈ words, d.before args s = true := fun d hd => by
  have q := hw d hd
  have t : ∀ d ∈ words, d = .arrayClass .byte ∨ (d.onTables && d.keepsFace) = true := by decide +kernel
  rcases t d hd with rfl | t
  · exact RoadKit.mvA hZ q
  · exact RoadKit.mv hZ q t
/-- WHAT COMES BACK, over the tables of the start Z: h the heap at the call, h' behind it -/
def Q (Z : State) (x : Addr) (A : Cell) (h : Heap) (v : Option Value) (h' : Heap) (L : List Loc) : Prop := v = none ∧ (∀ y ∈ L, y.base = x) ∧ RoadKit.Keep h h' [x] ∧ h'.size = h.size + 1 ∧ RoadKit.Exa Z h' x ST ∧ RoadKit.Fld Z h' x ST "value" "[B" (.ref h.size) ∧ RoadKit.Fld Z h' x ST "coder" "B" (.int 0) ∧
  (∃ V : Cell, RoadKit.Arr Z h' h.size V .byte ∧ V.vm = .none ∧ Z.vm.findClass "[B" = some V.cls ∧ V.slots.size = A.slots.size ∧ ∀ j, j < A.slots.size → V.slots[j]? = some (.int (lo8 (cv A j)))) ∧
  ∀ (O n d : String) (w : Value), RoadKit.Fld Z h x O n d w → RoadKit.slotOf Z O n d ≠ RoadKit.slotOf Z ST "value" "[B" → RoadKit.slotOf Z O n d ≠ RoadKit.slotOf Z ST "coder" "B" → RoadKit.Fld Z h' x O n d w
/-- **new String(chars) AT A CALL, IN THE ROAD'S FORM**: for specialBack behind newO: x the fresh String, b the char[] with the cell A -/
theorem back {p : Program} {l : Launch} {e : Env} {R : Room} {s : State} {args : Array Value} {below : List Frame} {len W : Nat} {Z : State} {a0 : Array Value} {h : Heap} (hZ : Z.Warmed39 s.vm) (hw : ∀ d ∈ words, d.before a0 Z = true) {kI : Nat} (wi : (Jvm.Cond.instantiable ST kI).before a0 Z = true)
    {x b : Addr} {A : Cell} {z : Int32} {v0 c0 : Value} (E : RoadKit.Exa Z h x ST) (V : RoadKit.Fld Z h x ST "value" "[B" v0) (C : RoadKit.Fld Z h x ST "coder" "B" c0) (K : RoadKit.Arr Z h b A .char) (hty : Typed .char A) (S : RoadKit.Sta Z h ST "COMPACT_STRINGS" "Z" (.int z)) (hz : ¬ z = 0)
    (l0 : 0 < A.slots.size) (l2 : A.slots.size ≤ 536870912) (hp : ∀ i, i < A.slots.size → ¬ 255 < cv A i) (hfr : 4 ≤ R.frames) (hlo : W + 65 ≤ R.locals) :
    Back l R p e below s args New1.yN len W (fun P a => a = #[.ref x, .ref b] ∧ P.U.heap = h ∧ P.cells + 1 ≤ R.cells ∧ P.slots + A.slots.size ≤ R.slots)
      (fun P _ v B => ∃ L, Q Z x A h v B.U.heap L ∧ B.locs = P.locs ++ L ∧ B.cells = P.cells + 1 ∧ B.slots = P.slots + A.slots.size) := by
  intro m meth c P g ig mk a X hg hsize hdg hW hn hp'
  obtain ⟨rfl, rfl, r1, r2⟩ := hp'
  have al : Z.vm.Alike P.U.vm := hZ.alike.trans X.warmed.alike
  obtain ⟨D, cfV, kV, iV, fV, hD, gV, stV, knV, obV, asV, slV⟩ := id V
  obtain ⟨D', cfC, kC, iC, fC, hD', gC, stC, -, -, asC, slC⟩ := id C
  cases hD.symm.trans hD'
  obtain ⟨D2, kD, e1, e2, e3, e4, e5⟩ := id E
  cases hD.symm.trans e1
  obtain ⟨c2, k2, i1, i2, i3, -⟩ := Cond.instantiable_spec wi
  cases e2.symm.trans i1
  cases e3.symm.trans i2
  obtain ⟨kU, u1, u2⟩ := al.2.2 _ _ e3
  have hB : Blank ST x D P.U := ⟨hD, ⟨knV, fun q hq => by rw [hq] at obV; cases obV⟩, by rw [al.findClass]; exact e2, kU, u1, by rw [u2]; exact i3, by rw [u2]; exact e5 i3⟩
  have F1 : Found ST "value" "[B" fV P.U := ⟨SBG.found_only al ⟨cfV, kV, iV, gV⟩, stV⟩
  have F2 : Found ST "coder" "B" fC P.U := ⟨SBG.found_only al ⟨cfC, kC, iC, gC⟩, stC⟩
  have hA : Ch b A P.U := ⟨⟨K.1, State.isArrayOf_alike al K.2.1, K.2.2, by omega⟩, hty⟩
  have hS : StaticIs P.U ST "COMPACT_STRINGS" "Z" (.int z) := by
    obtain ⟨cfS, iS, kS, fS, st, cS, t1, t2, t3, t4, t5, t6, t7⟩ := S
    exact StaticIs.there (s := { Z with heap := P.U.heap }) ⟨cfS, iS, kS, fS, st, cS, t1, t2, t3, t4, t5, (fun q => by rw [q] at t6; cases t6), t7⟩ al rfl
  obtain ⟨v, B, X', ⟨⟨hv, E', V', q1, q2, q3, q4, q5, q6, q7, q8, q9, q10, q11⟩, hl, hc, hs⟩, st⟩ := New1.pays x D fV fC b A z (tab_of (moved hZ hw)) hfr hlo m meth c P g ig mk _ X hg hsize hdg hW hn ⟨r1, r2, rfl, hB, F1, F2, hA, hS, hz, l0, l2, hp⟩
  have al' : Z.vm.Alike B.U.vm := hZ.alike.trans X'.warmed.alike
  have hsz : E'.slots.size = D.slots.size := by
    obtain ⟨-, -, -, kB, w1, w2, w3⟩ := q1
    obtain ⟨kB', y1, y2⟩ := al'.2.2 _ _ e3
    rw [q2.2.1] at w1
    cases w1.symm.trans y1
    rw [w3, e5 i3, y2]
  refine ⟨v, B, X', ⟨_, ⟨hv, ?_, ⟨by omega, fun y cy hy hn' => q10 y cy (by simpa using hn') hy, fun y cy hy => ?_⟩, q11, ⟨E', _, q1.1, by rw [q2.2.1]; exact e2, by rw [q2.2.1]; exact e3, by rw [q2.1]; exact obV, fun _ => by rw [hsz]; exact e5 i3⟩,
    ⟨E', cfV, kV, iV, fV, q1.1, gV, stV, by rw [q2.1]; exact knV, by rw [q2.1]; exact obV, by rw [q2.2.1]; exact asV, q3⟩, ⟨E', cfC, kC, iC, fC, q1.1, gC, stC, by rw [q2.1]; exact knV, by rw [q2.1]; exact obV, by rw [q2.2.1]; exact asC, q4⟩,
    ⟨V', ⟨q5.1, State.isArrayOf_alike al'.symm q5.2.1, q5.2.2.1⟩, q6, by rw [← al'.findClass]; exact q7, q8, fun j hj => by have := q9 j hj; rwa [Nat.zero_add] at this⟩, fun O n d w F n1 n2 => ?_⟩, hl, hc, hs⟩, st⟩
  · intro y hy
    simp only [List.mem_cons, List.not_mem_nil, or_false] at hy
    rcases hy with rfl | rfl <;> rfl
  · by_cases q : y = x
    · subst q
      cases hD.symm.trans hy
      exact ⟨E', q1.1, q2.2.1, q2.1, hsz⟩
    · exact ⟨cy, q10 y cy q hy, rfl, rfl, rfl⟩
  · obtain ⟨D3, cf, k, i, f, g1, g2, g3, g4, g5, g6, g7⟩ := F
    cases hD.symm.trans g1
    simp only [RoadKit.slotOf, g2, gV, gC, Option.map_some, Option.getD_some] at n1 n2
    exact ⟨E', cf, k, i, f, q1.1, g2, g3, by rw [q2.1]; exact g4, by rw [q2.1]; exact g5, by rw [q2.2.1]; exact g6, by rw [q2.2.2 f.slot (by simp [n1, n2])]; exact g7⟩
end StrChars.Road
namespace StrChars.Road
open Jvm Sem ClassFile Op Lib Jvm.Stand Jvm.Free Jvm.Free.XT
/-- WHAT COMES BACK, the byte[] as a list of values -/
def QA (Z : State) (x : Addr) (zn : Int32) (cs : List Int32) (h : Heap) (v : Option Value) (h' : Heap) (L : List Loc) : Prop := v = none ∧ (∀ y ∈ L, y.base = x) ∧ RoadKit.Keep h h' [x] ∧ h'.size = h.size + 1 ∧ RoadKit.Exa Z h' x ST ∧ RoadKit.Fld Z h' x ST "value" "[B" (.ref h.size) ∧ RoadKit.Fld Z h' x ST "coder" "B" (.int 0) ∧
  (∃ kb, Z.vm.findClass "[B" = some kb ∧ RoadKit.Arv Z h' h.size kb .byte zn (cs.map fun c => .int (lo8 c)) (.int 0)) ∧
  ∀ (O n d : String) (w : Value), RoadKit.Fld Z h x O n d w → RoadKit.slotOf Z O n d ≠ RoadKit.slotOf Z ST "value" "[B" → RoadKit.slotOf Z O n d ≠ RoadKit.slotOf Z ST "coder" "B" → RoadKit.Fld Z h' x O n d w
/-- **new String(chars) AT A CALL, THE ARRAYS AS LISTS**: the char[] at b holds cs, not empty, no char above 255 -/
theorem backArv {p : Program} {l : Launch} {e : Env} {R : Room} {s : State} {args : Array Value} {below : List Frame} {len W : Nat} {Z : State} {a0 : Array Value} {h : Heap} (hZ : Z.Warmed39 s.vm) (hw : ∀ d ∈ words, d.before a0 Z = true) {kI : Nat} (wi : (Jvm.Cond.instantiable ST kI).before a0 Z = true)
    {x b : Addr} {k : ClassId} {zn z : Int32} {cs : List Int32} {dv v0 c0 : Value} (E : RoadKit.Exa Z h x ST) (V : RoadKit.Fld Z h x ST "value" "[B" v0) (C : RoadKit.Fld Z h x ST "coder" "B" c0) (K : RoadKit.Arv Z h b k .char zn (cs.map Value.int) dv) (S : RoadKit.Sta Z h ST "COMPACT_STRINGS" "Z" (.int z)) (hz : ¬ z = 0)
    (hlen : zn.toNatClampNeg = cs.length) (h0 : 0 < cs.length) (hbig : cs.length ≤ 536870912) (hall : ∀ c ∈ cs, ¬ 255 < c) (hfr : 4 ≤ R.frames) (hlo : W + 65 ≤ R.locals) :
    Back l R p e below s args New1.yN len W (fun P a => a = #[.ref x, .ref b] ∧ P.U.heap = h ∧ P.cells + 1 ≤ R.cells ∧ P.slots + cs.length ≤ R.slots)
      (fun P _ v B => ∃ L, QA Z x zn cs h v B.U.heap L ∧ B.locs = P.locs ++ L ∧ B.cells = P.cells + 1 ∧ B.slots = P.slots + cs.length) := by
  obtain ⟨A, K1, K2, K3, K4, K5, K6⟩ := K
  have e : A.slots.size = cs.length := K3.trans hlen
  have hat : ∀ (i : Nat) (hi : i < cs.length), A.slots[i]? = some (.int cs[i]) := fun i hi => by rw [K5 i (by omega)]; simp [List.getD_eq_getElem?_getD, hi]
  have hcv : ∀ (i : Nat) (hi : i < cs.length), cv A i = cs[i] := fun i hi => by unfold cv; rw [hat i hi]
  have hty : Typed .char A := fun i v hv => by
    have hi : i < A.slots.size := (Array.getElem?_eq_some_iff.mp hv).1
    have q := K5 i hi
    rw [hv] at q
    rw [Option.some.inj q]
    exact K6 i hi
  refine Back.mono (back hZ hw wi E V C K1 hty S hz (by omega) (by omega) (fun i hi => by rw [hcv i (by omega)]; exact hall _ (List.getElem_mem _)) hfr hlo) (fun P a hp => ⟨hp.1, hp.2.1, hp.2.2.1, by rw [e]; exact hp.2.2.2⟩) (fun P a v B hp hq => ?_)
  obtain ⟨L, ⟨q1, q2, q3, q4, q5, q6, q7, ⟨V', v1, v2, v3, v4, v5⟩, q9⟩, hl, hc, hs⟩ := hq
  refine ⟨L, ⟨q1, q2, q3, q4, q5, q6, q7, ⟨V'.cls, v3, V', v1, rfl, by rw [v4, e, hlen], K4, fun i hi => ?_, fun i hi => ?_⟩, q9⟩, hl, hc, by rw [hs, e]⟩
  · have hi' : i < cs.length := by omega
    rw [v5 i (by omega), hcv i hi']; simp [List.getD_eq_getElem?_getD, hi']
  · have hi' : i < cs.length := by omega
    simp only [List.getD_eq_getElem?_getD, List.getElem?_map, List.getElem?_eq_getElem hi', Option.map_some, Option.getD_some]
    exact fits_lo8 _
end StrChars.Road
namespace StrChars.Road
open Jvm Sem ClassFile Op Lib Jvm.Stand Jvm.Free Jvm.Free.XT
/-- WHAT COMES BACK, in the writer's own shape -/
def QV (Z : State) (x : Addr) (N : Int32) (bs : List Int32) (h : Heap) (n0 : Nat) (v : Option Value) (h' : Heap) (L : List Loc) : Prop := v = none ∧ RoadKit.Fr n0 L ∧ RoadKit.Keep h h' [x] ∧ RoadKit.Exa Z h' x ST ∧ RoadKit.Fld Z h' x ST "coder" "B" (.int 0) ∧
  ∃ (t : Addr) (kb : ClassId), n0 ≤ t ∧ h.size ≤ t ∧ ¬ t = x ∧ RoadKit.Fld Z h' x ST "value" "[B" (.ref t) ∧ RoadKit.Arv Z h' t kb .byte N (bs.map Value.int) (.int 0)
/-- **new String(chars) AT A CALL, FOR THE WRITER**: a char[] of n known ints, each 0 to 255 -/
theorem backV {p : Program} {l : Launch} {e : Env} {R : Room} {s : State} {args : Array Value} {below : List Frame} {len W : Nat} {Z : State} {a0 : Array Value} {h : Heap} (hZ : Z.Warmed39 s.vm) (hw : ∀ d ∈ words, d.before a0 Z = true) {kI : Nat} (wi : (Jvm.Cond.instantiable ST kI).before a0 Z = true)
    {x b : Addr} {kC : ClassId} {cs bs : List Int32} {d v0 c0 : Value} {z N : Int32} {n n0 : Nat} (hx0 : n0 ≤ x) (hh0 : n0 ≤ h.size) (E : RoadKit.Exa Z h x ST) (V : RoadKit.Fld Z h x ST "value" "[B" v0) (C : RoadKit.Fld Z h x ST "coder" "B" c0) (K : RoadKit.Arv Z h b kC .char N (cs.map Value.int) d) (S : RoadKit.Sta Z h ST "COMPACT_STRINGS" "Z" (.int z)) (hz : ¬ z = 0)
    (hn : cs.length = n) (hN : N = Int32.ofNat n) (l0 : 0 < n) (l2 : n ≤ 4000) (hp : ∀ c ∈ cs, ¬ c < 0 ∧ ¬ (255 : Int32) < c) (hb : bs = cs.map (fun c => c.toInt8.toInt32)) (hfr : 4 ≤ R.frames) (hlo : W + 65 ≤ R.locals) :
    Back l R p e below s args (⟨"java/lang/String", "<init>", "([C)V"⟩ : MethodName) len W (fun P a => a = #[.ref x, .ref b] ∧ P.U.heap = h ∧ P.cells + 1 ≤ R.cells ∧ P.slots + n ≤ R.slots)
      (fun P _ v B => ∃ L, QV Z x N bs h n0 v B.U.heap L ∧ B.locs = P.locs ++ L ∧ B.cells = P.cells + 1 ∧ B.slots = P.slots + n) := by
  subst hn hN hb
  refine Back.mono (backArv hZ hw wi E V C K S hz (n32 (by omega)) l0 (by omega) (fun c hc => (hp c hc).2) hfr hlo) (fun P a hp => hp) (fun P a v B hp hq => ?_)
  obtain ⟨L, ⟨q1, q2, q3, q4, q5, q6, q7, ⟨kb, v1, v2⟩, q9⟩, hl, hc, hs⟩ := hq
  exact ⟨L, ⟨q1, fun y hy => by rw [q2 y hy]; exact hx0, q3, q5, q7, h.size, kb, hh0, Nat.le_refl _, Nat.ne_of_gt E.lt, q6, by rw [List.map_map]; exact v2⟩, hl, hc, hs⟩
end StrChars.Road
end Jvm.Pilot.@@N@@
namespace Jvm.RoadKit
open Sem ClassFile Op Lib Jvm.Stand Jvm.Free Jvm.LawKit
section OwnNew
variable {p : Program} {l : Launch} {e : Env} {R : Room} {s : State} {m : MethodId} {args : Array Value} {below : List Frame} {meth : Method} {c : Code} {T : State} {locs : List Loc} {cells slots : Nat} {h : Heap}
/-- from S the run comes to an end of which Q holds -/
def OwnGo (p : Program) (e : Env) (below : List Frame) (S : State) (Q : Outcome → State → Prop) : Prop :=
  ∃ s₂ o, Steps p.tables e below S s₂ ∧ s₂.status = .running ∧ Ended s₂ below o ∧ Q o s₂
theorem own_go {S : State} {Q : Outcome → State → Prop} (k : OwnGo p e below S Q) : ∃ s₂ o, Steps p.tables e below S s₂ ∧ s₂.status = .running ∧ Ended s₂ below o ∧ Q o s₂ := k
theorem own_back {S S' : State} {Q : Outcome → State → Prop} (h : ∀ t, Steps p.tables e below S' t → Steps p.tables e below S t) (k : OwnGo p e below S' Q) : OwnGo p e below S Q := by
  obtain ⟨s2, o, h1, h2⟩ := k
  exact ⟨s2, o, h _ h1, h2⟩
theorem own_seq {S S' : State} {Q : Outcome → State → Prop} (h : Steps p.tables e below S S') (k : OwnGo p e below S' Q) : OwnGo p e below S Q := own_back (fun _ ht => h.trans ht) k
abbrev OwnEnd (s : State) (Qf : Option Value → Heap → List Loc → Prop) (C S : Nat) : Outcome → State → Prop := fun o U' => ∃ v L, o = .returned v ∧ Qf v U'.heap L ∧ FrameEnd s o U' L C S
theorem own_end (X : Stand p l e R s m args below meth c T locs cells slots) (hlocks : meth.locks = false) {v : Option Value} (hv : meth.sig.returnType = none → v = none) {S : State} {Qf : Option Value → Heap → List Loc → Prop} {C Sl : Nat} (eT : T.heap = h) (hc : cells ≤ C) (hs : slots ≤ Sl) (hq : Qf v h locs)
    (step : ∀ fs : List Frame, (∀ (f : JFrame) (acts : List Action), f.method = m → f.locked = none → f.entered = [] → (doReturn e (T.setTop f) acts v).1 = T.setFrames fs) → Steps p.tables e below S (T.setFrames fs)) : OwnGo p e below S (OwnEnd s Qf C Sl) := by
  obtain ⟨fs, hr, hrun, hended, hW, hsame⟩ := X.leave (v := v) hv hlocks
  refine ⟨_, _, step fs hr, hrun, hended, v, locs, rfl, ?_, ⟨_, rfl⟩, hW, hsame.mono hc hs⟩
  show Qf v T.heap locs
  rw [eT]; exact hq
theorem own_hat {T : State} {h : Heap} {a : Addr} {c : Cell} (e : T.heap = h) (q : h[a]? = some c) : T.heap[a]? = some c := by rw [e]; exact q
theorem own_hle {T : State} {h : Heap} {k : Nat} (e : T.heap = h) (q : k ≤ h.size) : k ≤ T.heap.size := by rw [e]; exact q
theorem own_backN {Z : State} {a0 : Array Value} {y : MethodName} {bytes : ByteArray} {maxL : Nat} {ret : Option FieldType} {rm : Room} {len W : Nat} {as' : Array Value} {Q : Option Value → Heap → List Loc → Prop}
    (hM : MetFree l y (head1 [Cond.code y bytes maxL ret] rm) (fun a U => a = as' ∧ Z.Warmed39 U.vm ∧ U.heap = h) (fun _ _ _ _ _ => True) (fun _ U o U' => OwnEnd U Q rm.cells rm.slots o U'))
    (hZ : Z.Warmed39 s.vm) (wc : (Cond.code y bytes maxL ret).before a0 Z = true) (wz : (Cond.initialized y.cls).before a0 Z = true) (hf : rm.frames + 1 ≤ R.frames) (hl : W + (maxL + 11) + rm.locals ≤ R.locals) :
    Back l R p e below s args y len W (fun A a => a = as' ∧ A.U.heap = h ∧ A.cells + rm.cells ≤ R.cells ∧ A.slots + rm.slots ≤ R.slots)
      (fun A _ v B => ∃ L, Q v B.U.heap L ∧ B.locs = A.locs ++ L ∧ B.cells = A.cells + rm.cells ∧ B.slots = A.slots + rm.slots) := backOf (Q := Q) hM hZ wc wz hf hl
theorem own_retN (X : Stand p l e R s m args below meth c T locs cells slots) (hx : p.tables.exec = Jvm.exec) (hlocks : meth.locks = false) {pc : Nat} {Ls : Array Slot} {z : Int32} {t : FieldType} {rest : List Value} (hret : meth.sig.returnType = some t) (ht : t = .boolean ∨ t = .byte ∨ t = .char ∨ t = .short) (hn : nar t z = z)
    (hd : decode c.code pc = .ok (.ireturn, 1)) {Qf : Option Value → Heap → List Loc → Prop} {C Sl : Nat} (eT : T.heap = h) (hc : cells ≤ C) (hs : slots ≤ Sl) (hq : Qf (some (.int z)) h locs) : OwnGo p e below (T.setTop (mkF m pc Ls (.int z :: rest))) (OwnEnd s Qf C Sl) :=
  own_end X hlocks (fun h => by rw [hret] at h; cases h) eT hc hs hq fun fs hr => retN X hx hret ht hd (by rw [hn]; exact hr)
theorem own_retI (X : Stand p l e R s m args below meth c T locs cells slots) (hx : p.tables.exec = Jvm.exec) (hlocks : meth.locks = false) {pc : Nat} {Ls : Array Slot} {z : Int32} {rest : List Value} (hret : meth.sig.returnType = some .int)
    (hd : decode c.code pc = .ok (.ireturn, 1)) {Qf : Option Value → Heap → List Loc → Prop} {C Sl : Nat} (eT : T.heap = h) (hc : cells ≤ C) (hs : slots ≤ Sl) (hq : Qf (some (.int z)) h locs) : OwnGo p e below (T.setTop (mkF m pc Ls (.int z :: rest))) (OwnEnd s Qf C Sl) :=
  own_end X hlocks (fun h => by rw [hret] at h; cases h) eT hc hs hq fun fs hr => retOut X hx hret rfl (Or.inl ⟨rfl, Or.inl rfl, z, rfl⟩) hd hr
theorem own_retJ (X : Stand p l e R s m args below meth c T locs cells slots) (hx : p.tables.exec = Jvm.exec) (hlocks : meth.locks = false) {pc : Nat} {Ls : Array Slot} {z : Int64} {rest : List Value} (hret : meth.sig.returnType = some .long)
    (hd : decode c.code pc = .ok (.lreturn, 1)) {Qf : Option Value → Heap → List Loc → Prop} {C Sl : Nat} (eT : T.heap = h) (hc : cells ≤ C) (hs : slots ≤ Sl) (hq : Qf (some (.long z)) h locs) : OwnGo p e below (T.setTop (mkF m pc Ls (.long z :: rest))) (OwnEnd s Qf C Sl) :=
  own_end X hlocks (fun h => by rw [hret] at h; cases h) eT hc hs hq fun fs hr => retOut X hx hret rfl (Or.inr (Or.inl ⟨rfl, rfl, z, rfl⟩)) hd hr
theorem own_narA {t : FieldType} {w : Value} (h : w.isRef = true) : narrow t w = w := by
  rcases ref_cases h with rfl | ⟨a, rfl⟩ <;> cases t <;> rfl
theorem own_retA (X : Stand p l e R s m args below meth c T locs cells slots) (hx : p.tables.exec = Jvm.exec) (hlocks : meth.locks = false) {pc : Nat} {Ls : Array Slot} {w : Value} {t : FieldType} {rest : List Value} (hret : meth.sig.returnType = some t) (ht : t.isReference = true) (hw : w.isRef = true)
    (hd : decode c.code pc = .ok (.areturn, 1)) {Qf : Option Value → Heap → List Loc → Prop} {C Sl : Nat} (eT : T.heap = h) (hc : cells ≤ C) (hs : slots ≤ Sl) (hq : Qf (some w) h locs) : OwnGo p e below (T.setTop (mkF m pc Ls (w :: rest))) (OwnEnd s Qf C Sl) :=
  own_end X hlocks (fun h => by rw [hret] at h; cases h) eT hc hs hq fun fs hr => retOut X hx hret (own_narA hw) (Or.inr (Or.inr (Or.inr (Or.inr ⟨rfl, ht, hw⟩)))) hd hr
theorem own_retV (X : Stand p l e R s m args below meth c T locs cells slots) (hx : p.tables.exec = Jvm.exec) (hlocks : meth.locks = false) {pc : Nat} {Ls : Array Slot} (hret : meth.sig.returnType = none)
    (hd : decode c.code pc = .ok (.return_, 1)) {Qf : Option Value → Heap → List Loc → Prop} {C Sl : Nat} (eT : T.heap = h) (hc : cells ≤ C) (hs : slots ≤ Sl) (hq : Qf none h locs) : OwnGo p e below (T.setTop (mkF m pc Ls [])) (OwnEnd s Qf C Sl) :=
  own_end X hlocks (fun _ => rfl) eT hc hs hq fun fs hr => X.returnOut hx hret hd hr
end OwnNew
section OwnTerms
variable {args : Array Value} {first s : State} {o : Option Outcome} {idx : List Nat} {t u : Term}
theorem own_eqint {k : Int32} (h : (Cond.eq t (.int k)).value args first o s idx = some true) : t.eval args first o idx s = some (.int k) := by
  cases ha : t.eval args first o idx s with
  | none => simp [Cond.value, ha] at h
  | some x =>
    have hb : (Term.int k).eval args first o idx s = some (.int k) := Term.int_eval k
    cases x <;> simp [Cond.value, ha, hb, Value.isRef] at h ⊢
    exact h
theorem own_eqref {w : Addr} (hu : u.eval args first o idx s = some (.ref w)) (h : (Cond.eq t u).value args first o s idx = some true) : t.eval args first o idx s = some (.ref w) := by
  cases ha : t.eval args first o idx s with
  | none => simp [Cond.value, ha] at h
  | some x =>
    cases x <;> simp [Cond.value, ha, hu, Value.isRef] at h ⊢
    exact h
end OwnTerms
section OwnArr
variable {s : State} {args : Array Value} {t u : Term} {a : Addr} {c : Cell} {ty : FieldType}
theorem own_nat32 {n : Nat} (h : n < 2 ^ 31) : n.toInt32.toNatClampNeg = n := by
  have e : n.toInt32.toInt = n := Int32.toInt_ofNat_of_lt h
  have := nat_of (j := n.toInt32) (by rw [Int32.lt_iff_toInt_lt, e]; have z : (0 : Int32).toInt = 0 := rfl; omega)
  omega
theorem own_len {n : Int32} (A : Arr s s.heap a c ty) (et : t.eval args s none [] s = some (.ref a)) (h : (Cond.eq (.length t) (.int n)).value args s none s [] = some true) {k : Nat} (hk : n.toNatClampNeg = k := by rfl) : c.slots.size = k := by
  have e := own_eqint h
  have ha : s.arrayAt? a = some c := IntBox.arrayAt_of A.1 A.2.1 A.2.2
  by_cases hl : c.slots.size < 2 ^ 31
  · rw [len_f et ha hl] at e
    have e2 : c.slots.size.toInt32 = n := by injection e with e; injection e
    rw [← hk, ← e2]
    exact (own_nat32 hl).symm
  · simp [Term.eval, et, ha, hl] at e
theorem own_elem {j k : Int32} (A : Arr s s.heap a c ty) (et : t.eval args s none [] s = some (.ref a)) (h : (Cond.eq (.elem t (.int j)) (.int k)).value args s none s [] = some true) (hj : ¬ j < 0) : c.slots[j.toNatClampNeg]? = some (.int k) := by
  have e := own_eqint h
  have ha : s.arrayAt? a = some c := IntBox.arrayAt_of A.1 A.2.1 A.2.2
  rw [elem_f et (Term.int_eval j) ha hj] at e
  exact e
theorem own_elemR {j : Int32} {w : Addr} (A : Arr s s.heap a c ty) (et : t.eval args s none [] s = some (.ref a)) (hu : u.eval args s none [] s = some (.ref w)) (h : (Cond.eq (.elem t (.int j)) u).value args s none s [] = some true) (hj : ¬ j < 0) : c.slots[j.toNatClampNeg]? = some (.ref w) := by
  have e := own_eqref hu h
  have ha : s.arrayAt? a = some c := IntBox.arrayAt_of A.1 A.2.1 A.2.2
  rw [elem_f et (Term.int_eval j) ha hj] at e
  exact e
end OwnArr
section OwnMore
variable {Z : State} {h h' : Heap}
theorem own_arr_ne {a b : Addr} {c d : Cell} {t u : FieldType} (A : Arr Z h a c t) (B : Arr Z h b d u) (q : t ≠ u) : a ≠ b := fun e => by
  subst e
  cases A.1.symm.trans B.1
  obtain ⟨-, k1, h1, cp1, h2⟩ := A.2.1
  obtain ⟨-, k2, h3, cp2, h4⟩ := B.2.1
  cases h1.symm.trans h3
  rw [h2] at h4
  injection h4 with _ h5
  exact q h5
theorem own_arv_ne {a b : Addr} {k k' : ClassId} {t u : FieldType} {z z' : Int32} {vs vs' : List Value} {d d' : Value} (A : Arv Z h a k t z vs d) (B : Arv Z h b k' u z' vs' d') (q : t ≠ u) : a ≠ b := by
  obtain ⟨c, A, -⟩ := A
  obtain ⟨c', B, -⟩ := B
  exact own_arr_ne A B q
theorem own_ext (K : Keep h h' []) : Ext h h' := ⟨K.1, fun x c q => K.2.1 x c q nin0⟩
theorem own_fitA {t : FieldType} {w : Value} (hw : w.isRef = true) (ht : t.isReference = true := by rfl) : fits t w = true := by
  rcases ref_cases hw with rfl | ⟨a, rfl⟩ <;> cases t <;> first | rfl | cases ht
end OwnMore
section OwnRem
variable {p : Program} {l : Launch} {e : Env} {R : Room} {s : State} {m : MethodId} {args : Array Value} {below : List Frame} {meth : Method} {c : Code} {T : State} {locs : List Loc} {cells slots : Nat}
theorem own_lrem {g : JFrame} {target : State} (X : Stand p l e R s m args below meth c T locs cells slots) (hx : p.tables.exec = Jvm.exec) (hg : g.method = m) {x y : Int64} {rest : List Value} (hd : decode c.code g.pc = .ok (.lrem, 1)) (hs : g.stack = .long y :: .long x :: rest) (hy : y ≠ 0)
    (hr : Steps p.tables e below (T.setTop { g with pc := g.pc + 1, stack := .long (x % y) :: rest }) target) : Steps p.tables e below (T.setTop g) target :=
  XS.lrem X.here hx hg hd hs hy (by rw [lrem_mod]; exact hr)
end OwnRem
end Jvm.RoadKit
namespace Jvm.RoadKit
open Sem ClassFile Op Lib Bundle Jvm.Stand Jvm.Free Jvm.LawKit Jvm.Free.SB Jvm.Free.SBG
section OwnWide
variable {p : Program} {l : Launch} {e : Env} {R : Room} {s : State} {m : MethodId} {args : Array Value} {below : List Frame} {meth : Method} {c : Code} {T : State} {locs : List Loc} {cells slots : Nat} {h h0 : Heap} {Z : State} {a0 : Array Value} {EL : List (String × Nat)} {vm0 : Vm} {k0 : Nat}
abbrev OwnEndW (Z : State) (EL : List (String × Nat)) (s : State) (Qf : Option Value → Heap → List Loc → Prop) (C S : Nat) : Outcome → State → Prop := fun o U' => ∃ v L, o = .returned v ∧ Qf v U'.heap L ∧ CHr Z EL s.vm s.heap U'.vm U'.heap ∧ ReturnedEndW s o U' L C S
theorem own_endW (X : Stand p l e R (s.setVm vm0) m args below meth c T locs cells slots) (hlocks : meth.locks = false) {v : Option Value} (hv : meth.sig.returnType = none → v = none) {S : State} {Qf : Option Value → Heap → List Loc → Prop} {C Sl : Nat}
    (hS : s.Since vm0 k0) (hk : k0 ≤ h.size) (hZ : Z.Warmed39 (s.setVm vm0).vm) (hEL : EW Z a0 EL) (CR : CHr Z EL s.vm s.heap vm0 h) (eT : T.heap = h) (hc : cells ≤ C) (hs : slots ≤ Sl) (hq : Qf v h locs)
    (step : ∀ fs : List Frame, (∀ (f : JFrame) (acts : List Action), f.method = m → f.locked = none → f.entered = [] → (doReturn e (T.setTop f) acts v).1 = T.setFrames fs) → Steps p.tables e below S (T.setFrames fs)) : OwnGo p e below S (OwnEndW Z EL s Qf C Sl) := by
  obtain ⟨fs, hr, hrun, hended, hw1, hw2, hw3, hw4⟩ := X.leaveW (v := v) hS (by rw [eT]; exact hk) hv hlocks
  refine ⟨_, _, step fs hr, hrun, hended, v, locs, rfl, ?_, ?_, hw1, hw2, hw3, hw4.mono hc hs⟩
  · show Qf v T.heap locs
    rw [eT]; exact hq
  · show CHr Z EL s.vm s.heap T.vm T.heap
    rw [eT]; exact CR.trans (CHv.at X hZ hEL CR.1)
theorem own_retNW (X : Stand p l e R (s.setVm vm0) m args below meth c T locs cells slots) (hx : p.tables.exec = Jvm.exec) (hlocks : meth.locks = false) {pc : Nat} {Ls : Array Slot} {z : Int32} {t : FieldType} {rest : List Value} (hret : meth.sig.returnType = some t) (ht : t = .boolean ∨ t = .byte ∨ t = .char ∨ t = .short) (hn : nar t z = z)
    (hS : s.Since vm0 k0) (hk : k0 ≤ h.size) (hZ : Z.Warmed39 (s.setVm vm0).vm) (hEL : EW Z a0 EL) (CR : CHr Z EL s.vm s.heap vm0 h)
    (hd : decode c.code pc = .ok (.ireturn, 1)) {Qf : Option Value → Heap → List Loc → Prop} {C Sl : Nat} (eT : T.heap = h) (hc : cells ≤ C) (hs : slots ≤ Sl) (hq : Qf (some (.int z)) h locs) : OwnGo p e below (T.setTop (mkF m pc Ls (.int z :: rest))) (OwnEndW Z EL s Qf C Sl) :=
  own_endW X hlocks (fun h => by rw [hret] at h; cases h) hS hk hZ hEL CR eT hc hs hq fun fs hr => retN X hx hret ht hd (by rw [hn]; exact hr)
theorem own_retIW (X : Stand p l e R (s.setVm vm0) m args below meth c T locs cells slots) (hx : p.tables.exec = Jvm.exec) (hlocks : meth.locks = false) {pc : Nat} {Ls : Array Slot} {z : Int32} {rest : List Value} (hret : meth.sig.returnType = some .int)
    (hS : s.Since vm0 k0) (hk : k0 ≤ h.size) (hZ : Z.Warmed39 (s.setVm vm0).vm) (hEL : EW Z a0 EL) (CR : CHr Z EL s.vm s.heap vm0 h)
    (hd : decode c.code pc = .ok (.ireturn, 1)) {Qf : Option Value → Heap → List Loc → Prop} {C Sl : Nat} (eT : T.heap = h) (hc : cells ≤ C) (hs : slots ≤ Sl) (hq : Qf (some (.int z)) h locs) : OwnGo p e below (T.setTop (mkF m pc Ls (.int z :: rest))) (OwnEndW Z EL s Qf C Sl) :=
  own_endW X hlocks (fun h => by rw [hret] at h; cases h) hS hk hZ hEL CR eT hc hs hq fun fs hr => retOut X hx hret rfl (Or.inl ⟨rfl, Or.inl rfl, z, rfl⟩) hd hr
theorem own_retJW (X : Stand p l e R (s.setVm vm0) m args below meth c T locs cells slots) (hx : p.tables.exec = Jvm.exec) (hlocks : meth.locks = false) {pc : Nat} {Ls : Array Slot} {z : Int64} {rest : List Value} (hret : meth.sig.returnType = some .long)
    (hS : s.Since vm0 k0) (hk : k0 ≤ h.size) (hZ : Z.Warmed39 (s.setVm vm0).vm) (hEL : EW Z a0 EL) (CR : CHr Z EL s.vm s.heap vm0 h)
    (hd : decode c.code pc = .ok (.lreturn, 1)) {Qf : Option Value → Heap → List Loc → Prop} {C Sl : Nat} (eT : T.heap = h) (hc : cells ≤ C) (hs : slots ≤ Sl) (hq : Qf (some (.long z)) h locs) : OwnGo p e below (T.setTop (mkF m pc Ls (.long z :: rest))) (OwnEndW Z EL s Qf C Sl) :=
  own_endW X hlocks (fun h => by rw [hret] at h; cases h) hS hk hZ hEL CR eT hc hs hq fun fs hr => retOut X hx hret rfl (Or.inr (Or.inl ⟨rfl, rfl, z, rfl⟩)) hd hr
theorem own_retAW (X : Stand p l e R (s.setVm vm0) m args below meth c T locs cells slots) (hx : p.tables.exec = Jvm.exec) (hlocks : meth.locks = false) {pc : Nat} {Ls : Array Slot} {w : Value} {t : FieldType} {rest : List Value} (hret : meth.sig.returnType = some t) (ht : t.isReference = true) (hw : w.isRef = true)
    (hS : s.Since vm0 k0) (hk : k0 ≤ h.size) (hZ : Z.Warmed39 (s.setVm vm0).vm) (hEL : EW Z a0 EL) (CR : CHr Z EL s.vm s.heap vm0 h)
    (hd : decode c.code pc = .ok (.areturn, 1)) {Qf : Option Value → Heap → List Loc → Prop} {C Sl : Nat} (eT : T.heap = h) (hc : cells ≤ C) (hs : slots ≤ Sl) (hq : Qf (some w) h locs) : OwnGo p e below (T.setTop (mkF m pc Ls (w :: rest))) (OwnEndW Z EL s Qf C Sl) :=
  own_endW X hlocks (fun h => by rw [hret] at h; cases h) hS hk hZ hEL CR eT hc hs hq fun fs hr => retOut X hx hret (own_narA hw) (Or.inr (Or.inr (Or.inr (Or.inr ⟨rfl, ht, hw⟩)))) hd hr
theorem own_retVW (X : Stand p l e R (s.setVm vm0) m args below meth c T locs cells slots) (hx : p.tables.exec = Jvm.exec) (hlocks : meth.locks = false) {pc : Nat} {Ls : Array Slot} (hret : meth.sig.returnType = none)
    (hS : s.Since vm0 k0) (hk : k0 ≤ h.size) (hZ : Z.Warmed39 (s.setVm vm0).vm) (hEL : EW Z a0 EL) (CR : CHr Z EL s.vm s.heap vm0 h)
    (hd : decode c.code pc = .ok (.return_, 1)) {Qf : Option Value → Heap → List Loc → Prop} {C Sl : Nat} (eT : T.heap = h) (hc : cells ≤ C) (hs : slots ≤ Sl) (hq : Qf none h locs) : OwnGo p e below (T.setTop (mkF m pc Ls [])) (OwnEndW Z EL s Qf C Sl) :=
  own_endW X hlocks (fun _ => rfl) hS hk hZ hEL CR eT hc hs hq fun fs hr => X.returnOut hx hret hd hr
/-- a callee that may intern and keeps the invariant; the cells SL are no booked Strings' -/
theorem own_backH {y : MethodName} {bytes : ByteArray} {maxL : Nat} {ret : Option FieldType} {rm : Room} {len W : Nat} {as' : Array Value} {Q : Option Value → Heap → List Loc → Prop} {SL : List Addr}
    (hM : MetFree l y (head1 [Cond.code y bytes maxL ret] rm) (fun a U => a = as' ∧ Z.Warmed39 U.vm ∧ U.heap = h ∧ CHv Z EL U.vm h ∧ ∀ x ∈ SL, Safe Z EL U.vm h x) (fun _ _ _ _ _ => True) (fun _ U o U' => OwnEndW Z EL U Q rm.cells rm.slots o U'))
    (hZ : Z.Warmed39 (s.setVm vm0).vm) (wc : (Cond.code y bytes maxL ret).before a0 Z = true) (wz : (Cond.initialized y.cls).before a0 Z = true) (hf : rm.frames + 1 ≤ R.frames) (hl : W + (maxL + 11) + rm.locals ≤ R.locals) (hEL : EW Z a0 EL) (H : CHv Z EL vm0 h) (hsf : ∀ x ∈ SL, Safe Z EL vm0 h x) (hlt : ∀ x ∈ SL, x < h.size) :
    BackS l R p e below (s.setVm vm0) args y len W (fun A a => a = as' ∧ A.U.heap = h ∧ A.cells + rm.cells ≤ R.cells ∧ A.slots + rm.slots ≤ R.slots)
      (fun A _ v B => ∃ L, Q v B.U.heap L ∧ B.locs = A.locs ++ L ∧ B.cells = A.cells + rm.cells ∧ B.slots = A.slots + rm.slots ∧ CHr Z EL vm0 h B.U.vm B.U.heap) :=
  have hZ' : Z.Warmed39 vm0 := hZ
  BackS.of_freeW (bytes := bytes) (maxL := maxL) (ret := ret) (E := fun _ first o t L k n => k = rm.cells ∧ n = rm.slots ∧ (∃ v, o = .returned v ∧ Q v t.heap L) ∧ CHr Z EL first.vm first.heap t.vm t.heap) hM hf hl
    (fun m meth c A a Y hp => have hU : Z.Warmed39 A.U.vm := wtrans (s := s.setVm vm0) hZ' Y.warmed
      ⟨by show (Cond.and _ .tt).before a A.U = true; rw [Cond.before_and, mv hU wc]; rfl, mv hU wc, mv hU wz, hp.2.2.1, hp.2.2.2⟩)
    (fun m meth c A a g mk Y hp => ⟨hp.1, wtrans (s := s.setVm vm0) hZ' Y.warmed, hp.2.1, (CHv.at Y hZ' hEL H).1, fun x hx => (CHv.at Y hZ' hEL H).safe (hlt x hx) (hsf x hx)⟩) (fun _ _ _ _ _ _ _ _ _ => trivial)
    (fun _ _ _ _ ⟨v, L, h1, h2, h3, h4⟩ => ⟨L, _, _, h4, rfl, rfl, ⟨v, h1, h2⟩, h3⟩)
    (fun m meth c A a g mk v t L k n Y hp _ _ ⟨e1, e2, ⟨v', e3, e4⟩, e5⟩ => by
      cases e3; subst e1 e2
      refine ⟨L, e4, rfl, rfl, rfl, (CHv.at Y hZ' hEL H).trans ?_⟩
      rw [← hp.2.1]; exact e5)
/-- where a wide walk stands: all that its steps ask, bundled -/
def OwnSt (p : Program) (l : Launch) (e : Env) (R : Room) (s : State) (m : MethodId) (args : Array Value) (below : List Frame) (meth : Method) (c : Code) (Z : State) (EL : List (String × Nat)) (own : String) (n0 : Nat) (h0 : Heap) (ws : List Addr) (T : State) (h : Heap) (cells slots : Nat) : Prop :=
  ∃ (vm0 : Vm) (k0 : Nat) (locs : List Loc), Stand p l e R (s.setVm vm0) m args below meth c T locs cells slots ∧ T.heap = h ∧ s.Since vm0 k0 ∧ k0 ≤ h.size ∧ Z.Warmed39 (s.setVm vm0).vm ∧ (s.setVm vm0).vm.findClass own = some m.cls ∧ CHr Z EL s.vm h0 vm0 h ∧ Old Z n0 h ∧ Keep h0 h ws ∧ n0 ≤ h.size ∧ Fr n0 locs
end OwnWide
end Jvm.RoadKit
namespace Jvm.Pilot.@@N@@
open Jvm Jvm.ClassFile Sem Op Lib Jvm.Free Jvm.Stand Jvm.LawKit Jvm.RoadKit Bundle Jvm.Pilot.@@N@@.Jvm.D
abbrev own_EL : List (String × Nat) := consts_1
theorem own_EW {Z : State} {a0 : Array Value} (hw : ∀ d ∈ tables_1, d.before a0 Z = true) : EW Z a0 own_EL := (EW.cons (hw _ (List.mem_of_getElem? (i := 72) rfl)) (by decide +kernel) (EW.cons (hw _ (List.mem_of_getElem? (i := 76) rfl)) (by decide +kernel) (EW.cons (hw _ (List.mem_of_getElem? (i := 77) rfl)) (by decide +kernel) (EW.cons (hw _ (List.mem_of_getElem? (i := 84) rfl)) (by decide +kernel) EW.nil))))
theorem own_wS {Z : State} {a0 : Array Value} (hw : ∀ d ∈ tables_1, d.before a0 Z = true) : ∀ a ∈ Bundle.stringAtoms, a.before a0 Z = true := fun d hd => hw d ((by decide +kernel : ∀ d ∈ Bundle.stringAtoms, d ∈ tables_1) d hd)

/-- a is an ordinary Latin-1 String whose bytes are bs -/
def OwnStr (Z : State) (h : Heap) (a : Addr) (bs : List Int32) : Prop := ∃ (t : Addr) (k : ClassId), Exa Z h a "java/lang/String" ∧ Fld Z h a "java/lang/String" "coder" "B" (.int 0) ∧ Fld Z h a "java/lang/String" "value" "[B" (.ref t) ∧ Arv Z h t k .byte (Int32.ofNat bs.length) (bs.map Value.int) (.int 0) ∧ bs.length ≤ 4000
theorem OwnStr.ext {Z : State} {h h' : Heap} {a : Addr} {bs : List Int32} (E : Ext h h') (F : OwnStr Z h a bs) : OwnStr Z h' a bs := by
  obtain ⟨t, k, h1, h2, h3, h4, h5⟩ := F
  exact ⟨t, k, h1.ext E, h2.ext E, h3.ext E, h4.ext E, h5⟩
theorem OwnStr.exa {Z : State} {h : Heap} {a : Addr} {bs : List Int32} (F : OwnStr Z h a bs) : Exa Z h a "java/lang/String" := by
  obtain ⟨t, k, h1, h2, h3, h4, h5⟩ := F
  exact h1
theorem own_exaarv {Z : State} {h : Heap} {t w : Addr} {C : String} {k : ClassId} {ty : FieldType} {z : Int32} {vs : List Value} {d : Value} {a0 : Array Value} {n : Nat} (A : Arv Z h t k ty z vs d) (E : Exa Z h w C) (wi : (Cond.instantiable C n).before a0 Z = true) : t ≠ w := Ne.symm (Exa.neArv E A wi)
theorem OwnStr.wrA {Z : State} {h h' : Heap} {a w : Addr} {bs : List Int32} {sl : Nat} {v : Value} {k : ClassId} {ty : FieldType} {z : Int32} {vs : List Value} {d : Value} {a0 : Array Value} {n : Nat} (W : Wr h h' w sl v) (A : Arv Z h w k ty z vs d) (q : ty ≠ .byte) (wi : (Cond.instantiable "java/lang/String" n).before a0 Z = true) (F : OwnStr Z h a bs) : OwnStr Z h' a bs := by
  obtain ⟨t, k', h1, h2, h3, h4, h5⟩ := F
  have n1 : a ≠ w := Exa.neArv h1 A wi
  have n2 : t ≠ w := Ne.symm (own_arv_ne A h4 q)
  exact ⟨t, k', h1.wr W, h2.other W (Or.inl n1), h3.other W (Or.inl n1), h4.other W n2, h5⟩
theorem OwnStr.wrE {Z : State} {h h' : Heap} {a w : Addr} {bs : List Int32} {sl : Nat} {v : Value} {C : String} {a0 : Array Value} {n : Nat} (W : Wr h h' w sl v) (E : Exa Z h w C) (q : C ≠ "java/lang/String") (wi : (Cond.instantiable C n).before a0 Z = true) (F : OwnStr Z h a bs) : OwnStr Z h' a bs := by
  obtain ⟨t, k', h1, h2, h3, h4, h5⟩ := F
  have n1 : a ≠ w := Exa.ne h1 E (Ne.symm q)
  have n2 : t ≠ w := own_exaarv h4 E wi
  exact ⟨t, k', h1.wr W, h2.other W (Or.inl n1), h3.other W (Or.inl n1), h4.other W n2, h5⟩
theorem OwnStr.keepE {Z : State} {h h' : Heap} {a w : Addr} {bs : List Int32} {C : String} {a0 : Array Value} {n : Nat} (K : Keep h h' [w]) (E : Exa Z h w C) (q : C ≠ "java/lang/String") (wi : (Cond.instantiable C n).before a0 Z = true) (F : OwnStr Z h a bs) : OwnStr Z h' a bs := by
  obtain ⟨t, k', h1, h2, h3, h4, h5⟩ := F
  have n1 : a ≠ w := Exa.ne h1 E (Ne.symm q)
  have n2 : t ≠ w := own_exaarv h4 E wi
  exact ⟨t, k', h1.keep K, h2.keep K (ninS n1 nin0), h3.keep K (ninS n1 nin0), h4.keep K (ninS n2 nin0), h5⟩
theorem own_i32 {n : Nat} (h : n < 2 ^ 31) : (Int32.ofNat n).toInt = n := Int32.toInt_ofNat_of_lt h
theorem own_nn {n : Nat} (h : n < 2 ^ 31) : ¬ Int32.ofNat n < 0 := by
  rw [Int32.lt_iff_toInt_lt, own_i32 h]
  have z : (0 : Int32).toInt = 0 := rfl
  omega
theorem own_clamp {n : Nat} (h : n < 2 ^ 31) : (Int32.ofNat n).toNatClampNeg = n := by
  have := nat_of (own_nn h)
  rw [own_i32 h] at this
  omega
theorem own_lti {i n : Nat} (h : n < 2 ^ 31) (hi : i < n) : Int32.ofNat i < Int32.ofNat n := by
  rw [Int32.lt_iff_toInt_lt, own_i32 h, own_i32 (Nat.lt_trans hi h)]
  omega
theorem own_eqi {i n : Nat} (hi : i < 2 ^ 31) (h : n < 2 ^ 31) (e : Int32.ofNat i = Int32.ofNat n) : i = n := by
  have := congrArg Int32.toInt e
  rw [own_i32 h, own_i32 hi] at this
  omega
theorem own_suci (i : Nat) : Int32.ofNat i + (1 : Int32) = Int32.ofNat (i + 1) := (Int32.ofNat_add i 1).symm
theorem own_mapget (bs : List Int32) (i : Nat) (hi : i < 2 ^ 31) : (bs.map Value.int).getD (Int32.ofNat i).toNatClampNeg (.int 0) = .int (bs.getD i 0) := by
  rw [own_clamp hi]
  simp only [List.getD_eq_getElem?_getD, List.getElem?_map]
  cases bs[i]? <;> rfl
theorem own_exteq {bs ds : List Int32} (hl : bs.length = ds.length) (h : ∀ j, j < bs.length → bs.getD j 0 = ds.getD j 0) : bs = ds := by
  apply List.ext_getElem hl
  intro i h1 h2
  have := h i h1
  simpa [List.getD_eq_getElem?_getD, h1, h2] using this

abbrev own_b (y : Int32) : Int32 := (nar .char y).toInt8.toInt32
theorem own_c255 (x : Int32) : ¬ nar .char ((x &&& (255 : Int32)).toUInt32.toUInt16.toUInt32.toInt32) < 0 ∧ ¬ (255 : Int32) < nar .char ((x &&& (255 : Int32)).toUInt32.toUInt16.toUInt32.toInt32) := by
  have e1 : nar .char ((x &&& (255 : Int32)).toUInt32.toUInt16.toUInt32.toInt32) = x &&& 255 := by
    show ((x &&& (255 : Int32)).toUInt32.toUInt16.toUInt32.toInt32).toUInt32.toUInt16.toUInt32.toInt32 = _
    rw [i2c_mask, i2c_mask]
  rw [e1]
  have h := c_and x 255 (by decide)
  have z : (0 : Int32).toInt = 0 := rfl
  have z2 : (255 : Int32).toInt = 255 := rfl
  constructor <;> rw [Int32.lt_iff_toInt_lt] <;> omega
theorem own_all0 {P : Int32 → Prop} : ∀ x ∈ ([] : List Int32), P x := fun _ q => nomatch q
theorem own_allS {P : Int32 → Prop} {y : Int32} {L : List Int32} (q : P y) (r : ∀ x ∈ L, P x) : ∀ x ∈ y :: L, P x := fun x z => (List.mem_cons.mp z).elim (fun u => u ▸ q) (r x)
def OwnCh (f : Int32) : Prop := ¬ f < 0 ∧ ¬ (255 : Int32) < f
theorem OwnCh.int {f : Int32} (h : OwnCh f) : 0 ≤ f.toInt ∧ f.toInt ≤ 255 := by
  obtain ⟨h1, h2⟩ := h
  rw [Int32.lt_iff_toInt_lt] at h1 h2
  have z : (0 : Int32).toInt = 0 := rfl
  have z2 : (255 : Int32).toInt = 255 := rfl
  omega
theorem OwnCh.of {f : Int32} (h : 0 ≤ f.toInt ∧ f.toInt ≤ 255) : OwnCh f := by
  have z : (0 : Int32).toInt = 0 := rfl
  have z2 : (255 : Int32).toInt = 255 := rfl
  constructor <;> rw [Int32.lt_iff_toInt_lt] <;> omega
theorem own_narc {f : Int32} (h : OwnCh f) : (nar .char f).toInt = f.toInt := by
  have h1 := h.int
  have h2 := c_i2c f
  show f.toUInt32.toUInt16.toUInt32.toInt32.toInt = _
  omega
theorem own_hpn {f : Int32} (h : OwnCh f) : ¬ nar .char f < 0 ∧ ¬ (255 : Int32) < nar .char f := by
  have h1 := h.int
  have h2 := own_narc h
  exact OwnCh.of (f := nar .char f) (by omega)
theorem own_bk {f k : Int32} (h : OwnCh f) (hk : 0 ≤ k.toInt ∧ k.toInt ≤ 127) (e : own_b f = k) : f = k := by
  have h1 := h.int
  have h2 := own_narc h
  have h3 := c_i2b (nar .char f)
  have h4 : (own_b f).toInt = k.toInt := congrArg _ e
  apply Int32.toInt_inj.mp
  have h5 : (nar .char f).toInt8.toInt32.toInt = k.toInt := h4
  omega
theorem own_m255 (x : Int32) : OwnCh (x &&& (255 : Int32)) := by
  have h := c_and x 255 (by decide)
  have z2 : (255 : Int32).toInt = 255 := rfl
  exact OwnCh.of (by omega)
theorem own_xor {c m : Int32} (hc : OwnCh c) (hm : OwnCh m) : OwnCh (nar .char ((c ^^^ m).toUInt32.toUInt16.toUInt32.toInt32)) := by
  have t : ∀ a b : Fin 256, ((Int32.ofNat a.val) ^^^ (Int32.ofNat b.val)) = Int32.ofNat (a.val ^^^ b.val) := by
    intro a b
    apply Int32.toBitVec_inj.mp
    show (BitVec.ofNat 32 a.val) ^^^ (BitVec.ofNat 32 b.val) = BitVec.ofNat 32 (a.val ^^^ b.val)
    apply BitVec.eq_of_toNat_eq
    simp only [BitVec.toNat_xor, BitVec.toNat_ofNat]
    rw [Nat.mod_eq_of_lt (by have := a.isLt; omega), Nat.mod_eq_of_lt (by have := b.isLt; omega), Nat.mod_eq_of_lt (Nat.lt_of_lt_of_le (Nat.xor_lt_two_pow (n := 8) a.isLt b.isLt) (by decide))]
  have q : ∀ {f : Int32}, OwnCh f → ∃ a : Fin 256, f = Int32.ofNat a.val := by
    intro f h
    have h1 := h.int
    refine ⟨⟨f.toInt.toNat, by omega⟩, ?_⟩
    apply Int32.toInt_inj.mp
    rw [own_i32 (by show f.toInt.toNat < 2 ^ 31; omega)]
    show f.toInt = (f.toInt.toNat : Int)
    omega
  obtain ⟨a, rfl⟩ := q hc
  obtain ⟨b, rfl⟩ := q hm
  rw [t a b]
  have hx : a.val ^^^ b.val < 256 := Nat.xor_lt_two_pow (n := 8) a.isLt b.isLt
  have hz : OwnCh (Int32.ofNat (a.val ^^^ b.val)) := OwnCh.of (by rw [own_i32 (by omega)]; omega)
  have h0 := hz.int
  have h3 := c_i2c (Int32.ofNat (a.val ^^^ b.val))
  have h4 : OwnCh ((Int32.ofNat (a.val ^^^ b.val)).toUInt32.toUInt16.toUInt32.toInt32) := OwnCh.of (by omega)
  have h5 := own_narc h4
  have h6 := h4.int
  exact OwnCh.of (by omega)
theorem own_wV {Z : State} {a0 : Array Value} (hw : ∀ d ∈ tables_1, d.before a0 Z = true) : ∀ d ∈ StrChars.Road.words, d.before a0 Z = true := fun d hd => hw d ((by decide +kernel : ∀ d ∈ StrChars.Road.words, d ∈ tables_1) d hd)
theorem leq_d0 : decode jdk_43_method_13_code 0 = .ok (.aload_n 0, 1) := by decide +kernel
theorem leq_d1 : decode jdk_43_method_13_code 1 = .ok (.arraylength, 1) := by decide +kernel
theorem leq_d2 : decode jdk_43_method_13_code 2 = .ok (.aload_n 1, 1) := by decide +kernel
theorem leq_d3 : decode jdk_43_method_13_code 3 = .ok (.arraylength, 1) := by decide +kernel
theorem leq_d4 : decode jdk_43_method_13_code 4 = .ok (.if_icmp .ne 30, 3) := by decide +kernel
theorem leq_d7 : decode jdk_43_method_13_code 7 = .ok (.iconst 0, 1) := by decide +kernel
theorem leq_d8 : decode jdk_43_method_13_code 8 = .ok (.istore_n 2, 1) := by decide +kernel
theorem leq_d9 : decode jdk_43_method_13_code 9 = .ok (.iload_n 2, 1) := by decide +kernel
theorem leq_d10 : decode jdk_43_method_13_code 10 = .ok (.aload_n 0, 1) := by decide +kernel
theorem leq_d11 : decode jdk_43_method_13_code 11 = .ok (.arraylength, 1) := by decide +kernel
theorem leq_d12 : decode jdk_43_method_13_code 12 = .ok (.if_icmp .ge 20, 3) := by decide +kernel
theorem leq_d15 : decode jdk_43_method_13_code 15 = .ok (.aload_n 0, 1) := by decide +kernel
theorem leq_d16 : decode jdk_43_method_13_code 16 = .ok (.iload_n 2, 1) := by decide +kernel
theorem leq_d17 : decode jdk_43_method_13_code 17 = .ok (.baload, 1) := by decide +kernel
theorem leq_d18 : decode jdk_43_method_13_code 18 = .ok (.aload_n 1, 1) := by decide +kernel
theorem leq_d19 : decode jdk_43_method_13_code 19 = .ok (.iload_n 2, 1) := by decide +kernel
theorem leq_d20 : decode jdk_43_method_13_code 20 = .ok (.baload, 1) := by decide +kernel
theorem leq_d21 : decode jdk_43_method_13_code 21 = .ok (.if_icmp .eq 5, 3) := by decide +kernel
theorem leq_d24 : decode jdk_43_method_13_code 24 = .ok (.iconst 0, 1) := by decide +kernel
theorem leq_d25 : decode jdk_43_method_13_code 25 = .ok (.ireturn, 1) := by decide +kernel
theorem leq_d26 : decode jdk_43_method_13_code 26 = .ok (.iinc 2 1, 3) := by decide +kernel
theorem leq_d29 : decode jdk_43_method_13_code 29 = .ok (.goto (-20), 3) := by decide +kernel
theorem leq_d32 : decode jdk_43_method_13_code 32 = .ok (.iconst 1, 1) := by decide +kernel
theorem leq_d33 : decode jdk_43_method_13_code 33 = .ok (.ireturn, 1) := by decide +kernel
theorem leq_d34 : decode jdk_43_method_13_code 34 = .ok (.iconst 0, 1) := by decide +kernel
theorem leq_d35 : decode jdk_43_method_13_code 35 = .ok (.ireturn, 1) := by decide +kernel
theorem leq_pn : plainName "java/lang/StringLatin1" = true := by first | (simp [plainName, overriddenIn]; done) | decide +kernel
theorem leq_ef (m : MethodId) (x0 : Addr) (x1 : Addr) : entryFrame m #[(.ref x0), (.ref x1)] 3 = mkF m 0 #[.val (.ref x0), .val (.ref x1), .unset] [] := by first | (simp [entryFrame, mkF, argsToLocals, Value.category]; done) | rfl
set_option maxRecDepth 65536 in
set_option maxHeartbeats 40000000 in
theorem rm_leq (l : Launch) (Z : State) (a0 : Array Value) (hw : ∀ d ∈ tables_1, d.before a0 Z = true) (ws : List Jvm.Cond) (t1 : Addr) (t2 : Addr) (k1 : ClassId) (k2 : ClassId) (bs : List Int32) (ds : List Int32) (h0 : Heap) (n0 : Nat) (Z0 : n0 ≤ h0.size) (V1 : Arv Z h0 t1 k1 .byte (Int32.ofNat bs.length) (bs.map Value.int) (.int 0)) (V2 : Arv Z h0 t2 k2 .byte (Int32.ofNat ds.length) (ds.map Value.int) (.int 0)) (m1 : bs.length ≤ 4000) (m2 : ds.length ≤ 4000) :
    MetFree l (⟨"java/lang/StringLatin1", "equals", "([B[B)Z"⟩ : MethodName) (head1 (Jvm.Cond.code (⟨"java/lang/StringLatin1", "equals", "([B[B)Z"⟩ : MethodName) jdk_43_method_13_code 3 (some .boolean) :: ws) ({ frames := 0, cells := 0, slots := 0, locals := 0 } : Room)) (fun a U => a = #[(.ref t1), (.ref t2)] ∧ Z.Warmed39 U.vm ∧ U.heap = h0) (fun _ _ _ _ _ => True) (fun _ U o U' => OwnEnd U (fun v h L => v = some (.int (if bs = ds then 1 else 0)) ∧ Fr n0 L ∧ h = h0) ({ frames := 0, cells := 0, slots := 0, locals := 0 } : Room).cells ({ frames := 0, cells := 0, slots := 0, locals := 0 } : Room).slots o U') := by
  refine MetFree.of_bodySF (plainFor_of_name leq_pn) hisR ?_
  intro p e s m args below meth c s₁ Bd hml0 hP hK
  obtain ⟨rfl, hZ, hh⟩ := hP
  have hx := Bd.exec
  have hby := Bd.bytes
  have hml : c.maxLocals = 3 := hml0
  have hown : s.vm.findClass "java/lang/StringLatin1" = some m.cls := findClass_of_methodNamed Bd.named
  have hnm := (name_of_methodNamed Bd.named Bd.method).1
  have X0 : Stand p l e ({ frames := 0, cells := 0, slots := 0, locals := 0 } : Room) s m #[(.ref t1), (.ref t2)] below meth c s₁ [] 0 0 := Stand.of_body Bd
  have e0 : s₁.heap = h0 := by rw [← hh, Bd.state]; rfl
  have N0 := Fr.nil n0
  have KP0 := Keep.refl h0 []
  refine own_go (Q := (OwnEnd s (fun v h L => v = some (.int (if bs = ds then 1 else 0)) ∧ Fr n0 L ∧ h = h0) ({ frames := 0, cells := 0, slots := 0, locals := 0 } : Room).cells ({ frames := 0, cells := 0, slots := 0, locals := 0 } : Room).slots)) ?_
  refine own_back (fun t k => castTop (leq_ef m t1 t2) k) ?_
  show OwnGo p e below (s₁.setTop (mkF m 0 #[.val (.ref t1), .val (.ref t2), .unset] [])) _
  refine own_back (fun t k => XS.aloadN X0.here hx rfl (hb hby leq_d0) rfl rfl k) ?_
  show OwnGo p e below (s₁.setTop (mkF m 1 #[.val (.ref t1), .val (.ref t2), .unset] [(.ref t1)])) _
  obtain ⟨c101, A101, q101, S101, M101, H101, U101⟩ := id V1
  refine own_back (fun t k => X0.arraylength hx (own_hat e0 A101.1) (State.isArrayOf_alike hZ.alike A101.2.1) (g := (mkF m 1 #[.val (.ref t1), .val (.ref t2), .unset] [(.ref t1)])) rfl rfl (hb hby leq_d1) t k) ?_
  rw [len_of S101 M101]
  show OwnGo p e below (s₁.setTop (mkF m 2 #[.val (.ref t1), .val (.ref t2), .unset] [(.int (Int32.ofNat bs.length))])) _
  refine own_back (fun t k => XS.aloadN X0.here hx rfl (hb hby leq_d2) rfl rfl k) ?_
  show OwnGo p e below (s₁.setTop (mkF m 3 #[.val (.ref t1), .val (.ref t2), .unset] [(.ref t2), (.int (Int32.ofNat bs.length))])) _
  obtain ⟨c102, A102, q102, S102, M102, H102, U102⟩ := id V2
  refine own_back (fun t k => X0.arraylength hx (own_hat e0 A102.1) (State.isArrayOf_alike hZ.alike A102.2.1) (g := (mkF m 3 #[.val (.ref t1), .val (.ref t2), .unset] [(.ref t2), (.int (Int32.ofNat bs.length))])) rfl rfl (hb hby leq_d3) t k) ?_
  rw [len_of S102 M102]
  show OwnGo p e below (s₁.setTop (mkF m 4 #[.val (.ref t1), .val (.ref t2), .unset] [(.int (Int32.ofNat ds.length)), (.int (Int32.ofNat bs.length))])) _
  by_cases hc4_103 : (Int32.ofNat bs.length) = (Int32.ofNat ds.length)
  · refine own_back (fun t k => XS.icmpNo X0.here hx rfl (hb hby leq_d4) rfl (Jvm.Free.XT.ii_ne_f hc4_103) k) ?_
    show OwnGo p e below (s₁.setTop (mkF m 7 #[.val (.ref t1), .val (.ref t2), .unset] [])) _
    refine own_back (fun t k => XS.iconst X0.here hx rfl (hb hby leq_d7) k) ?_
    show OwnGo p e below (s₁.setTop (mkF m 8 #[.val (.ref t1), .val (.ref t2), .unset] [(.int (0 : Int32))])) _
    refine own_back (fun t k => XS.istoreN X0.here hx rfl (hb hby leq_d8) rfl (l' := #[.val (.ref t1), .val (.ref t2), .val (.int (0 : Int32))]) rfl k) ?_
    show OwnGo p e below (s₁.setTop (mkF m 9 #[.val (.ref t1), .val (.ref t2), .val (.int (0 : Int32))] [])) _
    have hl104 : bs.length = ds.length := own_eqi (by omega) (by omega) hc4_103
    have loop : ∀ (j i : Nat), i + j = bs.length → (∀ q, q < i → bs.getD q 0 = ds.getD q 0) → OwnGo p e below (s₁.setTop (mkF m 9 #[.val (.ref t1), .val (.ref t2), .val (.int (Int32.ofNat i))] [])) (OwnEnd s (fun v h L => v = some (.int (if bs = ds then 1 else 0)) ∧ Fr n0 L ∧ h = h0) ({ frames := 0, cells := 0, slots := 0, locals := 0 } : Room).cells ({ frames := 0, cells := 0, slots := 0, locals := 0 } : Room).slots) := by
      intro j
      induction j with
      | zero =>
        intro i hi hs
        show OwnGo p e below (s₁.setTop (mkF m 9 #[.val (.ref t1), .val (.ref t2), .val (.int (Int32.ofNat i))] [])) _
        refine own_back (fun t k => XS.iloadN X0.here hx rfl (hb hby leq_d9) rfl k) ?_
        show OwnGo p e below (s₁.setTop (mkF m 10 #[.val (.ref t1), .val (.ref t2), .val (.int (Int32.ofNat i))] [(.int (Int32.ofNat i))])) _
        refine own_back (fun t k => XS.aloadN X0.here hx rfl (hb hby leq_d10) rfl rfl k) ?_
        show OwnGo p e below (s₁.setTop (mkF m 11 #[.val (.ref t1), .val (.ref t2), .val (.int (Int32.ofNat i))] [(.ref t1), (.int (Int32.ofNat i))])) _
        obtain ⟨c105, A105, q105, S105, M105, H105, U105⟩ := id V1
        refine own_back (fun t k => X0.arraylength hx (own_hat e0 A105.1) (State.isArrayOf_alike hZ.alike A105.2.1) (g := (mkF m 11 #[.val (.ref t1), .val (.ref t2), .val (.int (Int32.ofNat i))] [(.ref t1), (.int (Int32.ofNat i))])) rfl rfl (hb hby leq_d11) t k) ?_
        rw [len_of S105 M105]
        show OwnGo p e below (s₁.setTop (mkF m 12 #[.val (.ref t1), .val (.ref t2), .val (.int (Int32.ofNat i))] [(.int (Int32.ofNat bs.length)), (.int (Int32.ofNat i))])) _
        refine own_back (fun t k => XS.icmpYes X0.here hx rfl (pc0 := 12) (pc' := 32) rfl (hb hby leq_d12) rfl (Jvm.Free.XT.ii_ge_t (by rw [show i = bs.length by omega]; exact Int32.lt_irrefl)) (by decide) (by decide) k) ?_
        show OwnGo p e below (s₁.setTop (mkF m 32 #[.val (.ref t1), .val (.ref t2), .val (.int (Int32.ofNat i))] [])) _
        refine own_back (fun t k => XS.iconst X0.here hx rfl (hb hby leq_d32) k) ?_
        show OwnGo p e below (s₁.setTop (mkF m 33 #[.val (.ref t1), .val (.ref t2), .val (.int (Int32.ofNat i))] [(.int (1 : Int32))])) _
        refine own_retN X0 hx Bd.notSynchronized (t := .boolean) (z := (1 : Int32)) Bd.returns (by simp) rfl (hb hby leq_d33) e0 (Nat.le_of_ble_eq_true rfl) (Nat.le_of_ble_eq_true rfl) ?_
        exact ⟨by rw [if_pos (own_exteq hl104 (fun q hq => hs q (by omega)))], N0, rfl⟩
      | succ j ih =>
        intro i hi hs
        show OwnGo p e below (s₁.setTop (mkF m 9 #[.val (.ref t1), .val (.ref t2), .val (.int (Int32.ofNat i))] [])) _
        refine own_back (fun t k => XS.iloadN X0.here hx rfl (hb hby leq_d9) rfl k) ?_
        show OwnGo p e below (s₁.setTop (mkF m 10 #[.val (.ref t1), .val (.ref t2), .val (.int (Int32.ofNat i))] [(.int (Int32.ofNat i))])) _
        refine own_back (fun t k => XS.aloadN X0.here hx rfl (hb hby leq_d10) rfl rfl k) ?_
        show OwnGo p e below (s₁.setTop (mkF m 11 #[.val (.ref t1), .val (.ref t2), .val (.int (Int32.ofNat i))] [(.ref t1), (.int (Int32.ofNat i))])) _
        obtain ⟨c106, A106, q106, S106, M106, H106, U106⟩ := id V1
        refine own_back (fun t k => X0.arraylength hx (own_hat e0 A106.1) (State.isArrayOf_alike hZ.alike A106.2.1) (g := (mkF m 11 #[.val (.ref t1), .val (.ref t2), .val (.int (Int32.ofNat i))] [(.ref t1), (.int (Int32.ofNat i))])) rfl rfl (hb hby leq_d11) t k) ?_
        rw [len_of S106 M106]
        show OwnGo p e below (s₁.setTop (mkF m 12 #[.val (.ref t1), .val (.ref t2), .val (.int (Int32.ofNat i))] [(.int (Int32.ofNat bs.length)), (.int (Int32.ofNat i))])) _
        refine own_back (fun t k => XS.icmpNo X0.here hx rfl (hb hby leq_d12) rfl (Jvm.Free.XT.ii_ge_f (own_lti (by omega) (by omega))) k) ?_
        show OwnGo p e below (s₁.setTop (mkF m 15 #[.val (.ref t1), .val (.ref t2), .val (.int (Int32.ofNat i))] [])) _
        refine own_back (fun t k => XS.aloadN X0.here hx rfl (hb hby leq_d15) rfl rfl k) ?_
        show OwnGo p e below (s₁.setTop (mkF m 16 #[.val (.ref t1), .val (.ref t2), .val (.int (Int32.ofNat i))] [(.ref t1)])) _
        refine own_back (fun t k => XS.iloadN X0.here hx rfl (hb hby leq_d16) rfl k) ?_
        show OwnGo p e below (s₁.setTop (mkF m 17 #[.val (.ref t1), .val (.ref t2), .val (.int (Int32.ofNat i))] [(.int (Int32.ofNat i)), (.ref t1)])) _
        obtain ⟨c107, A107, q107, S107, M107, H107, U107⟩ := id V1
        have ib108 : ¬ ((Int32.ofNat i) < 0 ∨ c107.slots.size ≤ ((Int32.ofNat i)).toNatClampNeg) := (inb_of S107 ⟨own_nn (by omega), own_lti (by omega) (by omega)⟩)
        refine own_back (fun t k => X0.baloadBytes hx (j := (Int32.ofNat i)) (v := (.int (bs.getD i 0))) (own_hat e0 A107.1) (State.isArrayOf_alike hZ.alike A107.2.1) A107.2.2 ib108 (H107.at ib108 (own_mapget bs i (by omega))) (g := (mkF m 17 #[.val (.ref t1), .val (.ref t2), .val (.int (Int32.ofNat i))] [(.int (Int32.ofNat i)), (.ref t1)])) rfl rfl (hb hby leq_d17) t k) ?_
        show OwnGo p e below (s₁.setTop (mkF m 18 #[.val (.ref t1), .val (.ref t2), .val (.int (Int32.ofNat i))] [(.int (bs.getD i 0))])) _
        refine own_back (fun t k => XS.aloadN X0.here hx rfl (hb hby leq_d18) rfl rfl k) ?_
        show OwnGo p e below (s₁.setTop (mkF m 19 #[.val (.ref t1), .val (.ref t2), .val (.int (Int32.ofNat i))] [(.ref t2), (.int (bs.getD i 0))])) _
        refine own_back (fun t k => XS.iloadN X0.here hx rfl (hb hby leq_d19) rfl k) ?_
        show OwnGo p e below (s₁.setTop (mkF m 20 #[.val (.ref t1), .val (.ref t2), .val (.int (Int32.ofNat i))] [(.int (Int32.ofNat i)), (.ref t2), (.int (bs.getD i 0))])) _
        obtain ⟨c109, A109, q109, S109, M109, H109, U109⟩ := id V2
        have ib110 : ¬ ((Int32.ofNat i) < 0 ∨ c109.slots.size ≤ ((Int32.ofNat i)).toNatClampNeg) := (inb_of S109 ⟨own_nn (by omega), own_lti (by omega) (by omega)⟩)
        refine own_back (fun t k => X0.baloadBytes hx (j := (Int32.ofNat i)) (v := (.int (ds.getD i 0))) (own_hat e0 A109.1) (State.isArrayOf_alike hZ.alike A109.2.1) A109.2.2 ib110 (H109.at ib110 (own_mapget ds i (by omega))) (g := (mkF m 20 #[.val (.ref t1), .val (.ref t2), .val (.int (Int32.ofNat i))] [(.int (Int32.ofNat i)), (.ref t2), (.int (bs.getD i 0))])) rfl rfl (hb hby leq_d20) t k) ?_
        show OwnGo p e below (s₁.setTop (mkF m 21 #[.val (.ref t1), .val (.ref t2), .val (.int (Int32.ofNat i))] [(.int (ds.getD i 0)), (.int (bs.getD i 0))])) _
        by_cases hc21_111 : (bs.getD i 0) = (ds.getD i 0)
        · refine own_back (fun t k => XS.icmpYes X0.here hx rfl (pc0 := 21) (pc' := 26) rfl (hb hby leq_d21) rfl (Jvm.Free.XT.ii_eq_t hc21_111) (by decide) (by decide) k) ?_
          show OwnGo p e below (s₁.setTop (mkF m 26 #[.val (.ref t1), .val (.ref t2), .val (.int (Int32.ofNat i))] [])) _
          refine own_back (fun t k => XS.iinc X0.here hx rfl (hb hby leq_d26) rfl (l' := #[.val (.ref t1), .val (.ref t2), .val (.int ((Int32.ofNat i) + (1 : Int32)))]) rfl k) ?_
          show OwnGo p e below (s₁.setTop (mkF m 29 #[.val (.ref t1), .val (.ref t2), .val (.int ((Int32.ofNat i) + (1 : Int32)))] [])) _
          refine own_back (fun t k => XS.goto X0.here hx rfl (pc0 := 29) (pc' := 9) rfl (hb hby leq_d29) (by decide) (by decide) k) ?_
          show OwnGo p e below (s₁.setTop (mkF m 9 #[.val (.ref t1), .val (.ref t2), .val (.int ((Int32.ofNat i) + (1 : Int32)))] [])) _
          rw [own_suci]
          refine ih (i + 1) (by omega) (fun q hq => ?_)
          rcases Nat.lt_succ_iff_lt_or_eq.mp hq with h | h
          · exact hs q h
          · rw [h]; exact hc21_111
        · refine own_back (fun t k => XS.icmpNo X0.here hx rfl (hb hby leq_d21) rfl (Jvm.Free.XT.ii_eq_f hc21_111) k) ?_
          show OwnGo p e below (s₁.setTop (mkF m 24 #[.val (.ref t1), .val (.ref t2), .val (.int (Int32.ofNat i))] [])) _
          refine own_back (fun t k => XS.iconst X0.here hx rfl (hb hby leq_d24) k) ?_
          show OwnGo p e below (s₁.setTop (mkF m 25 #[.val (.ref t1), .val (.ref t2), .val (.int (Int32.ofNat i))] [(.int (0 : Int32))])) _
          refine own_retN X0 hx Bd.notSynchronized (t := .boolean) (z := (0 : Int32)) Bd.returns (by simp) rfl (hb hby leq_d25) e0 (Nat.le_of_ble_eq_true rfl) (Nat.le_of_ble_eq_true rfl) ?_
          exact ⟨by rw [if_neg (fun q => hc21_111 (by rw [q]))], N0, rfl⟩
    exact loop bs.length 0 (by omega) (fun q hq => absurd hq (Nat.not_lt_zero _))
  · refine own_back (fun t k => XS.icmpYes X0.here hx rfl (pc0 := 4) (pc' := 34) rfl (hb hby leq_d4) rfl (Jvm.Free.XT.ii_ne_t hc4_103) (by decide) (by decide) k) ?_
    show OwnGo p e below (s₁.setTop (mkF m 34 #[.val (.ref t1), .val (.ref t2), .unset] [])) _
    refine own_back (fun t k => XS.iconst X0.here hx rfl (hb hby leq_d34) k) ?_
    show OwnGo p e below (s₁.setTop (mkF m 35 #[.val (.ref t1), .val (.ref t2), .unset] [(.int (0 : Int32))])) _
    refine own_retN X0 hx Bd.notSynchronized (t := .boolean) (z := (0 : Int32)) Bd.returns (by simp) rfl (hb hby leq_d35) e0 (Nat.le_of_ble_eq_true rfl) (Nat.le_of_ble_eq_true rfl) ?_
    exact ⟨by rw [if_neg (fun q => hc4_103 (by rw [q]))], N0, rfl⟩
theorem own_ite0 {P : Prop} [Decidable P] (h : (if P then (1 : Int32) else 0) = 0) : (if P then (1 : Int32) else 0) = 0 := h
theorem own_ite1 {P : Prop} [Decidable P] (h : ¬ (if P then (1 : Int32) else 0) = 0) : (if P then (1 : Int32) else 0) = 1 := by
  by_cases q : P
  · exact if_pos q
  · exact absurd (if_neg q) h
theorem own_arvget {Z : State} {h : Heap} {t : Addr} {k k' : ClassId} {ty ty' : FieldType} {z z' : Int32} {vs vs' : List Value} {d d' : Value} (A : Arv Z h t k ty z vs d) (B : Arv Z h t k' ty' z' vs' d') : z.toNatClampNeg = z'.toNatClampNeg ∧ ∀ i, i < z.toNatClampNeg → vs.getD i d = vs'.getD i d' := by
  obtain ⟨c, A1, -, A3, -, A5, -⟩ := A
  obtain ⟨c', B1, -, B3, -, B5, -⟩ := B
  cases A1.1.symm.trans B1.1
  refine ⟨A3.symm.trans B3, fun i hi => ?_⟩
  have q1 := A5 i (by omega)
  have q2 := B5 i (by omega)
  exact Option.some.inj (q1.symm.trans q2)
theorem own_sameb {Z : State} {h : Heap} {a : Addr} {bs ds : List Int32} (F : OwnStr Z h a bs) (G : OwnStr Z h a ds) : bs = ds := by
  obtain ⟨t, k, h1, h2, h3, h4, h5⟩ := F
  obtain ⟨t', k', g1, g2, g3, g4, g5⟩ := G
  have e : t = t' := Decidable.byContradiction fun q => Fld.ne h3 g3 (fun z => q (Value.ref.inj z)) rfl
  subst e
  obtain ⟨q1, q2⟩ := own_arvget h4 g4
  rw [own_clamp (by omega), own_clamp (by omega)] at q1
  rw [own_clamp (by omega)] at q2
  refine own_exteq q1 fun j hj => ?_
  have := q2 j hj
  have e1 := own_mapget bs j (by omega)
  have e2 := own_mapget ds j (by omega)
  rw [own_clamp (by omega)] at e1 e2
  rw [e1, e2] at this
  exact Value.int.inj this
theorem seq_d0 : decode jdk_42_method_66_code 0 = .ok (.aload_n 0, 1) := by decide +kernel
theorem seq_d1 : decode jdk_42_method_66_code 1 = .ok (.aload_n 1, 1) := by decide +kernel
theorem seq_d2 : decode jdk_42_method_66_code 2 = .ok (.if_acmp .ne 5, 3) := by decide +kernel
theorem seq_d5 : decode jdk_42_method_66_code 5 = .ok (.iconst 1, 1) := by decide +kernel
theorem seq_d6 : decode jdk_42_method_66_code 6 = .ok (.ireturn, 1) := by decide +kernel
theorem seq_d7 : decode jdk_42_method_66_code 7 = .ok (.aload_n 1, 1) := by decide +kernel
theorem seq_d8 : decode jdk_42_method_66_code 8 = .ok (.instanceof 10, 3) := by decide +kernel
theorem seq_d11 : decode jdk_42_method_66_code 11 = .ok (.ifCond .eq 43, 3) := by decide +kernel
theorem seq_d14 : decode jdk_42_method_66_code 14 = .ok (.aload_n 1, 1) := by decide +kernel
theorem seq_d15 : decode jdk_42_method_66_code 15 = .ok (.checkcast 10, 3) := by decide +kernel
theorem seq_d18 : decode jdk_42_method_66_code 18 = .ok (.astore_n 2, 1) := by decide +kernel
theorem seq_d19 : decode jdk_42_method_66_code 19 = .ok (.getstatic 38, 3) := by decide +kernel
theorem seq_d22 : decode jdk_42_method_66_code 22 = .ok (.ifCond .eq 14, 3) := by decide +kernel
theorem seq_d25 : decode jdk_42_method_66_code 25 = .ok (.aload_n 0, 1) := by decide +kernel
theorem seq_d26 : decode jdk_42_method_66_code 26 = .ok (.getfield 15, 3) := by decide +kernel
theorem seq_d29 : decode jdk_42_method_66_code 29 = .ok (.aload_n 2, 1) := by decide +kernel
theorem seq_d30 : decode jdk_42_method_66_code 30 = .ok (.getfield 15, 3) := by decide +kernel
theorem seq_d33 : decode jdk_42_method_66_code 33 = .ok (.if_icmp .ne 21, 3) := by decide +kernel
theorem seq_d36 : decode jdk_42_method_66_code 36 = .ok (.aload_n 0, 1) := by decide +kernel
theorem seq_d37 : decode jdk_42_method_66_code 37 = .ok (.getfield 9, 3) := by decide +kernel
theorem seq_d40 : decode jdk_42_method_66_code 40 = .ok (.aload_n 2, 1) := by decide +kernel
theorem seq_d41 : decode jdk_42_method_66_code 41 = .ok (.getfield 9, 3) := by decide +kernel
theorem seq_d44 : decode jdk_42_method_66_code 44 = .ok (.invokestatic 541, 3) := by decide +kernel
theorem seq_d47 : decode jdk_42_method_66_code 47 = .ok (.ifCond .eq 7, 3) := by decide +kernel
theorem seq_d50 : decode jdk_42_method_66_code 50 = .ok (.iconst 1, 1) := by decide +kernel
theorem seq_d51 : decode jdk_42_method_66_code 51 = .ok (.goto 4, 3) := by decide +kernel
theorem seq_d54 : decode jdk_42_method_66_code 54 = .ok (.iconst 0, 1) := by decide +kernel
theorem seq_d55 : decode jdk_42_method_66_code 55 = .ok (.ireturn, 1) := by decide +kernel
theorem seq_pn : plainName "java/lang/String" = true := by first | (simp [plainName, overriddenIn]; done) | decide +kernel
theorem seq_pd0 : parseMethodDescriptor "([B[B)Z" = some ⟨[(.array .byte), (.array .byte)], some .boolean⟩ := by decide +kernel
theorem seq_ef (m : MethodId) (x0 : Addr) (x1 : Addr) : entryFrame m #[(.ref x0), (.ref x1)] 3 = mkF m 0 #[.val (.ref x0), .val (.ref x1), .unset] [] := by first | (simp [entryFrame, mkF, argsToLocals, Value.category]; done) | rfl
set_option maxRecDepth 65536 in
set_option maxHeartbeats 40000000 in
theorem rm_seq (l : Launch) (Z : State) (a0 : Array Value) (hw : ∀ d ∈ tables_1, d.before a0 Z = true) (ws : List Jvm.Cond) (a1 : Addr) (a2 : Addr) (bs : List Int32) (ds : List Int32) (cz : Int32) (h0 : Heap) (n0 : Nat) (Z0 : n0 ≤ h0.size) (OL : Old Z n0 h0) (B1 : OwnStr Z h0 a1 bs) (B2 : OwnStr Z h0 a2 ds) (SC : Sta Z Z.heap "java/lang/String" "COMPACT_STRINGS" "Z" (.int cz)) (hcz : ¬ cz = 0) :
    MetFree l (⟨"java/lang/String", "equals", "(Ljava/lang/Object;)Z"⟩ : MethodName) (head1 (Jvm.Cond.code (⟨"java/lang/String", "equals", "(Ljava/lang/Object;)Z"⟩ : MethodName) jdk_42_method_66_code 3 (some .boolean) :: ws) ({ frames := 1, cells := 0, slots := 0, locals := 20 } : Room)) (fun a U => a = #[(.ref a1), (.ref a2)] ∧ Z.Warmed39 U.vm ∧ U.heap = h0) (fun _ _ _ _ _ => True) (fun _ U o U' => OwnEnd U (fun v h L => v = some (.int (if bs = ds then 1 else 0)) ∧ Fr n0 L ∧ h = h0) ({ frames := 1, cells := 0, slots := 0, locals := 20 } : Room).cells ({ frames := 1, cells := 0, slots := 0, locals := 20 } : Room).slots o U') := by
  refine MetFree.of_bodySF (plainFor_of_name seq_pn) hisR ?_
  intro p e s m args below meth c s₁ Bd hml0 hP hK
  obtain ⟨rfl, hZ, hh⟩ := hP
  have hx := Bd.exec
  have hby := Bd.bytes
  have hml : c.maxLocals = 3 := hml0
  have hown : s.vm.findClass "java/lang/String" = some m.cls := findClass_of_methodNamed Bd.named
  have hnm := (name_of_methodNamed Bd.named Bd.method).1
  have X0 : Stand p l e ({ frames := 1, cells := 0, slots := 0, locals := 20 } : Room) s m #[(.ref a1), (.ref a2)] below meth c s₁ [] 0 0 := Stand.of_body Bd
  have e0 : s₁.heap = h0 := by rw [← hh, Bd.state]; rfl
  have N0 := Fr.nil n0
  have KP0 := Keep.refl h0 []
  refine own_go (Q := (OwnEnd s (fun v h L => v = some (.int (if bs = ds then 1 else 0)) ∧ Fr n0 L ∧ h = h0) ({ frames := 1, cells := 0, slots := 0, locals := 20 } : Room).cells ({ frames := 1, cells := 0, slots := 0, locals := 20 } : Room).slots)) ?_
  refine own_back (fun t k => castTop (seq_ef m a1 a2) k) ?_
  show OwnGo p e below (s₁.setTop (mkF m 0 #[.val (.ref a1), .val (.ref a2), .unset] [])) _
  obtain ⟨t1, k1, E1, C1, F1, V1, m1⟩ := B1
  obtain ⟨t2, k2, E2, C2, F2, V2, m2⟩ := B2
  refine own_back (fun t k => XS.aloadN X0.here hx rfl (hb hby seq_d0) rfl rfl k) ?_
  show OwnGo p e below (s₁.setTop (mkF m 1 #[.val (.ref a1), .val (.ref a2), .unset] [(.ref a1)])) _
  refine own_back (fun t k => XS.aloadN X0.here hx rfl (hb hby seq_d1) rfl rfl k) ?_
  show OwnGo p e below (s₁.setTop (mkF m 2 #[.val (.ref a1), .val (.ref a2), .unset] [(.ref a2), (.ref a1)])) _
  by_cases ha2_112 : a1 = a2
  · refine own_back (fun t k => Jvm.RoadKit.acmp (g := (mkF m 2 #[.val (.ref a1), .val (.ref a2), .unset] [(.ref a2), (.ref a1)])) X0 hx rfl rfl rfl (pc0 := 2) (pc' := 5) (same := true) rfl (hb hby seq_d2) rfl (decide_eq_true (congrArg Value.ref ha2_112)) (by decide) (by decide) k) ?_
    show OwnGo p e below (s₁.setTop (mkF m 5 #[.val (.ref a1), .val (.ref a2), .unset] [])) _
    refine own_back (fun t k => XS.iconst X0.here hx rfl (hb hby seq_d5) k) ?_
    show OwnGo p e below (s₁.setTop (mkF m 6 #[.val (.ref a1), .val (.ref a2), .unset] [(.int (1 : Int32))])) _
    refine own_retN X0 hx Bd.notSynchronized (t := .boolean) (z := (1 : Int32)) Bd.returns (by simp) rfl (hb hby seq_d6) e0 (Nat.le_of_ble_eq_true rfl) (Nat.le_of_ble_eq_true rfl) ?_
    exact ⟨by rw [if_pos (own_sameb (by exact ⟨_, _, E1, C1, F1, V1, m1⟩) (by rw [ha2_112]; exact ⟨_, _, E2, C2, F2, V2, m2⟩))], N0, rfl⟩
  · refine own_back (fun t k => Jvm.RoadKit.acmp (g := (mkF m 2 #[.val (.ref a1), .val (.ref a2), .unset] [(.ref a2), (.ref a1)])) X0 hx rfl rfl rfl (pc0 := 2) (pc' := 7) (same := false) rfl (hb hby seq_d2) rfl (decide_eq_false fun q => ha2_112 (Value.ref.inj q)) (by decide) (by decide) k) ?_
    show OwnGo p e below (s₁.setTop (mkF m 7 #[.val (.ref a1), .val (.ref a2), .unset] [])) _
    refine own_back (fun t k => XS.aloadN X0.here hx rfl (hb hby seq_d7) rfl rfl k) ?_
    show OwnGo p e below (s₁.setTop (mkF m 8 #[.val (.ref a1), .val (.ref a2), .unset] [(.ref a2)])) _
    obtain ⟨T113, X113, e113, st113⟩ := instY X0 hx hZ hown (hw _ (List.mem_of_getElem? (i := 64) rfl)) e0 (Ins.self E2) (g := (mkF m 8 #[.val (.ref a1), .val (.ref a2), .unset] [(.ref a2)])) rfl rfl (hb hby seq_d8)
    refine own_back st113 ?_
    show OwnGo p e below (T113.setTop (mkF m 11 #[.val (.ref a1), .val (.ref a2), .unset] [(.int (1 : Int32))])) _
    refine own_back (fun t k => XS.ifNo X113.here hx rfl (hb hby seq_d11) rfl (Jvm.Free.XT.i0_eq_f (by decide)) k) ?_
    show OwnGo p e below (T113.setTop (mkF m 14 #[.val (.ref a1), .val (.ref a2), .unset] [])) _
    refine own_back (fun t k => XS.aloadN X113.here hx rfl (hb hby seq_d14) rfl rfl k) ?_
    show OwnGo p e below (T113.setTop (mkF m 15 #[.val (.ref a1), .val (.ref a2), .unset] [(.ref a2)])) _
    obtain ⟨T114, X114, e114, st114⟩ := castY X113 hx hZ hown (hw _ (List.mem_of_getElem? (i := 64) rfl)) e113 (Ins.self E2) (g := (mkF m 15 #[.val (.ref a1), .val (.ref a2), .unset] [(.ref a2)])) rfl rfl (hb hby seq_d15)
    refine own_back st114 ?_
    show OwnGo p e below (T114.setTop (mkF m 18 #[.val (.ref a1), .val (.ref a2), .unset] [(.ref a2)])) _
    refine own_back (fun t k => XS.astoreN X114.here hx rfl (hb hby seq_d18) rfl rfl (l' := #[.val (.ref a1), .val (.ref a2), .val (.ref a2)]) rfl k) ?_
    show OwnGo p e below (T114.setTop (mkF m 19 #[.val (.ref a1), .val (.ref a2), .val (.ref a2)] [])) _
    obtain ⟨T115, X115, e115, st115⟩ := getS2 X114 hx hZ hown (host := "") (Or.inl (hw _ (List.mem_of_getElem? (i := 19) rfl))) Via.refl e114 (SC.ext OL.2) (g := (mkF m 19 #[.val (.ref a1), .val (.ref a2), .val (.ref a2)] [])) rfl (hb hby seq_d19)
    refine own_back st115 ?_
    show OwnGo p e below (T115.setTop (mkF m 22 #[.val (.ref a1), .val (.ref a2), .val (.ref a2)] [(.int cz)])) _
    refine own_back (fun t k => XS.ifNo X115.here hx rfl (hb hby seq_d22) rfl (Jvm.Free.XT.i0_eq_f hcz) k) ?_
    show OwnGo p e below (T115.setTop (mkF m 25 #[.val (.ref a1), .val (.ref a2), .val (.ref a2)] [])) _
    refine own_back (fun t k => XS.aloadN X115.here hx rfl (hb hby seq_d25) rfl rfl k) ?_
    show OwnGo p e below (T115.setTop (mkF m 26 #[.val (.ref a1), .val (.ref a2), .val (.ref a2)] [(.ref a1)])) _
    obtain ⟨T116, X116, e116, st116⟩ := getF X115 hx hZ hown (host := "") (Or.inl (hw _ (List.mem_of_getElem? (i := 31) rfl))) Via.refl e115 C1 (g := (mkF m 26 #[.val (.ref a1), .val (.ref a2), .val (.ref a2)] [(.ref a1)])) rfl rfl (hb hby seq_d26)
    refine own_back st116 ?_
    show OwnGo p e below (T116.setTop (mkF m 29 #[.val (.ref a1), .val (.ref a2), .val (.ref a2)] [(.int (0 : Int32))])) _
    refine own_back (fun t k => XS.aloadN X116.here hx rfl (hb hby seq_d29) rfl rfl k) ?_
    show OwnGo p e below (T116.setTop (mkF m 30 #[.val (.ref a1), .val (.ref a2), .val (.ref a2)] [(.ref a2), (.int (0 : Int32))])) _
    obtain ⟨T117, X117, e117, st117⟩ := getF X116 hx hZ hown (host := "") (Or.inl (hw _ (List.mem_of_getElem? (i := 31) rfl))) Via.refl e116 C2 (g := (mkF m 30 #[.val (.ref a1), .val (.ref a2), .val (.ref a2)] [(.ref a2), (.int (0 : Int32))])) rfl rfl (hb hby seq_d30)
    refine own_back st117 ?_
    show OwnGo p e below (T117.setTop (mkF m 33 #[.val (.ref a1), .val (.ref a2), .val (.ref a2)] [(.int (0 : Int32)), (.int (0 : Int32))])) _
    refine own_back (fun t k => XS.icmpNo X117.here hx rfl (hb hby seq_d33) rfl (Jvm.Free.XT.ii_ne_f (by decide)) k) ?_
    show OwnGo p e below (T117.setTop (mkF m 36 #[.val (.ref a1), .val (.ref a2), .val (.ref a2)] [])) _
    refine own_back (fun t k => XS.aloadN X117.here hx rfl (hb hby seq_d36) rfl rfl k) ?_
    show OwnGo p e below (T117.setTop (mkF m 37 #[.val (.ref a1), .val (.ref a2), .val (.ref a2)] [(.ref a1)])) _
    obtain ⟨T118, X118, e118, st118⟩ := getF X117 hx hZ hown (host := "") (Or.inl (hw _ (List.mem_of_getElem? (i := 33) rfl))) Via.refl e117 F1 (g := (mkF m 37 #[.val (.ref a1), .val (.ref a2), .val (.ref a2)] [(.ref a1)])) rfl rfl (hb hby seq_d37)
    refine own_back st118 ?_
    show OwnGo p e below (T118.setTop (mkF m 40 #[.val (.ref a1), .val (.ref a2), .val (.ref a2)] [(.ref t1)])) _
    refine own_back (fun t k => XS.aloadN X118.here hx rfl (hb hby seq_d40) rfl rfl k) ?_
    show OwnGo p e below (T118.setTop (mkF m 41 #[.val (.ref a1), .val (.ref a2), .val (.ref a2)] [(.ref a2), (.ref t1)])) _
    obtain ⟨T119, X119, e119, st119⟩ := getF X118 hx hZ hown (host := "") (Or.inl (hw _ (List.mem_of_getElem? (i := 33) rfl))) Via.refl e118 F2 (g := (mkF m 41 #[.val (.ref a1), .val (.ref a2), .val (.ref a2)] [(.ref a2), (.ref t1)])) rfl rfl (hb hby seq_d41)
    refine own_back st119 ?_
    show OwnGo p e below (T119.setTop (mkF m 44 #[.val (.ref a1), .val (.ref a2), .val (.ref a2)] [(.ref t2), (.ref t1)])) _
    obtain ⟨_, _, ⟨T120, L120, k120, n120⟩, -, X120, ⟨Lc120, hQ120, l120, y120, z120⟩, st120⟩ := Jvm.LawKit.callS X119 hx (y := (⟨"java/lang/StringLatin1", "equals", "([B[B)Z"⟩ : MethodName)) hown (mvT hZ (hw _ (List.mem_of_getElem? (i := 65) rfl))) (mvT hZ (hw _ (List.mem_of_getElem? (i := 66) rfl))) (mvT hZ (hw _ (List.mem_of_getElem? (i := 67) rfl))) (mvT hZ (hw _ (List.mem_of_getElem? (i := 68) rfl))) (by decide) (own_backN (W := 0) (rm_leq l Z a0 hw [] t1 t2 k1 k2 bs ds h0 n0 Z0 V1 V2 m1 m2) hZ (hw _ (List.mem_of_getElem? (i := 68) rfl)) (hw _ (List.mem_of_getElem? (i := 67) rfl)) (by decide) (by decide)) (g := (mkF m 44 #[.val (.ref a1), .val (.ref a2), .val (.ref a2)] [(.ref t2), (.ref t1)])) rfl (by rw [hml]; rfl) (argsL := [(.ref t1), (.ref t2)]) (rest := []) (lenOf seq_pd0 rfl) rfl (by show 2 * 0 + _ ≤ _; exact Nat.le_of_eq rfl) (hb hby seq_d44) (fun _ _ => ⟨rfl, e119, Nat.le_of_ble_eq_true rfl, Nat.le_of_ble_eq_true rfl⟩)
    dsimp only [Pt.U, Pt.locs, Pt.cells, Pt.slots] at X120 l120 y120 z120 st120 hQ120
    subst l120 y120 z120
    obtain ⟨rfl, N120q, hh120⟩ := hQ120
    refine own_back st120 ?_
    have N120 := Fr.app N0 N120q
    show OwnGo p e below (T120.setTop (mkF m 47 #[.val (.ref a1), .val (.ref a2), .val (.ref a2)] [(.int (if bs = ds then (1 : Int32) else 0))])) _
    by_cases hc47_121 : (if bs = ds then (1 : Int32) else 0) = (0 : Int32)
    · refine own_back (fun t k => XS.ifYes X120.here hx rfl (pc0 := 47) (pc' := 54) rfl (hb hby seq_d47) rfl (Jvm.Free.XT.i0_eq_t hc47_121) (by decide) (by decide) k) ?_
      show OwnGo p e below (T120.setTop (mkF m 54 #[.val (.ref a1), .val (.ref a2), .val (.ref a2)] [])) _
      refine own_back (fun t k => XS.iconst X120.here hx rfl (hb hby seq_d54) k) ?_
      show OwnGo p e below (T120.setTop (mkF m 55 #[.val (.ref a1), .val (.ref a2), .val (.ref a2)] [(.int (0 : Int32))])) _
      refine own_retN X120 hx Bd.notSynchronized (t := .boolean) (z := (0 : Int32)) Bd.returns (by simp) rfl (hb hby seq_d55) hh120 (Nat.le_of_ble_eq_true rfl) (Nat.le_of_ble_eq_true rfl) ?_
      exact ⟨by rw [own_ite0 hc47_121], N120, rfl⟩
    · refine own_back (fun t k => XS.ifNo X120.here hx rfl (hb hby seq_d47) rfl (Jvm.Free.XT.i0_eq_f hc47_121) k) ?_
      show OwnGo p e below (T120.setTop (mkF m 50 #[.val (.ref a1), .val (.ref a2), .val (.ref a2)] [])) _
      refine own_back (fun t k => XS.iconst X120.here hx rfl (hb hby seq_d50) k) ?_
      show OwnGo p e below (T120.setTop (mkF m 51 #[.val (.ref a1), .val (.ref a2), .val (.ref a2)] [(.int (1 : Int32))])) _
      refine own_back (fun t k => XS.goto X120.here hx rfl (pc0 := 51) (pc' := 55) rfl (hb hby seq_d51) (by decide) (by decide) k) ?_
      show OwnGo p e below (T120.setTop (mkF m 55 #[.val (.ref a1), .val (.ref a2), .val (.ref a2)] [(.int (1 : Int32))])) _
      refine own_retN X120 hx Bd.notSynchronized (t := .boolean) (z := (1 : Int32)) Bd.returns (by simp) rfl (hb hby seq_d55) hh120 (Nat.le_of_ble_eq_true rfl) (Nat.le_of_ble_eq_true rfl) ?_
      exact ⟨by rw [own_ite1 hc47_121], N120, rfl⟩
theorem seqn_d0 : decode jdk_42_method_66_code 0 = .ok (.aload_n 0, 1) := by decide +kernel
theorem seqn_d1 : decode jdk_42_method_66_code 1 = .ok (.aload_n 1, 1) := by decide +kernel
theorem seqn_d2 : decode jdk_42_method_66_code 2 = .ok (.if_acmp .ne 5, 3) := by decide +kernel
theorem seqn_d7 : decode jdk_42_method_66_code 7 = .ok (.aload_n 1, 1) := by decide +kernel
theorem seqn_d8 : decode jdk_42_method_66_code 8 = .ok (.instanceof 10, 3) := by decide +kernel
theorem seqn_d11 : decode jdk_42_method_66_code 11 = .ok (.ifCond .eq 43, 3) := by decide +kernel
theorem seqn_d54 : decode jdk_42_method_66_code 54 = .ok (.iconst 0, 1) := by decide +kernel
theorem seqn_d55 : decode jdk_42_method_66_code 55 = .ok (.ireturn, 1) := by decide +kernel
theorem seqn_pn : plainName "java/lang/String" = true := by first | (simp [plainName, overriddenIn]; done) | decide +kernel
theorem seqn_ef (m : MethodId) (x0 : Addr) : entryFrame m #[(.ref x0), .null] 3 = mkF m 0 #[.val (.ref x0), .val .null, .unset] [] := by first | (simp [entryFrame, mkF, argsToLocals, Value.category]; done) | rfl
set_option maxRecDepth 65536 in
set_option maxHeartbeats 40000000 in
theorem rm_seqn (l : Launch) (Z : State) (a0 : Array Value) (hw : ∀ d ∈ tables_1, d.before a0 Z = true) (ws : List Jvm.Cond) (a1 : Addr) (h0 : Heap) (n0 : Nat) (Z0 : n0 ≤ h0.size)  :
    MetFree l (⟨"java/lang/String", "equals", "(Ljava/lang/Object;)Z"⟩ : MethodName) (head1 (Jvm.Cond.code (⟨"java/lang/String", "equals", "(Ljava/lang/Object;)Z"⟩ : MethodName) jdk_42_method_66_code 3 (some .boolean) :: ws) ({ frames := 0, cells := 0, slots := 0, locals := 0 } : Room)) (fun a U => a = #[(.ref a1), .null] ∧ Z.Warmed39 U.vm ∧ U.heap = h0) (fun _ _ _ _ _ => True) (fun _ U o U' => OwnEnd U (fun v h L => v = some (.int 0) ∧ Fr n0 L ∧ h = h0) ({ frames := 0, cells := 0, slots := 0, locals := 0 } : Room).cells ({ frames := 0, cells := 0, slots := 0, locals := 0 } : Room).slots o U') := by
  refine MetFree.of_bodySF (plainFor_of_name seqn_pn) hisR ?_
  intro p e s m args below meth c s₁ Bd hml0 hP hK
  obtain ⟨rfl, hZ, hh⟩ := hP
  have hx := Bd.exec
  have hby := Bd.bytes
  have hml : c.maxLocals = 3 := hml0
  have hown : s.vm.findClass "java/lang/String" = some m.cls := findClass_of_methodNamed Bd.named
  have hnm := (name_of_methodNamed Bd.named Bd.method).1
  have X0 : Stand p l e ({ frames := 0, cells := 0, slots := 0, locals := 0 } : Room) s m #[(.ref a1), .null] below meth c s₁ [] 0 0 := Stand.of_body Bd
  have e0 : s₁.heap = h0 := by rw [← hh, Bd.state]; rfl
  have N0 := Fr.nil n0
  have KP0 := Keep.refl h0 []
  refine own_go (Q := (OwnEnd s (fun v h L => v = some (.int 0) ∧ Fr n0 L ∧ h = h0) ({ frames := 0, cells := 0, slots := 0, locals := 0 } : Room).cells ({ frames := 0, cells := 0, slots := 0, locals := 0 } : Room).slots)) ?_
  refine own_back (fun t k => castTop (seqn_ef m a1) k) ?_
  show OwnGo p e below (s₁.setTop (mkF m 0 #[.val (.ref a1), .val .null, .unset] [])) _
  refine own_back (fun t k => XS.aloadN X0.here hx rfl (hb hby seqn_d0) rfl rfl k) ?_
  show OwnGo p e below (s₁.setTop (mkF m 1 #[.val (.ref a1), .val .null, .unset] [(.ref a1)])) _
  refine own_back (fun t k => XS.aloadN X0.here hx rfl (hb hby seqn_d1) rfl rfl k) ?_
  show OwnGo p e below (s₁.setTop (mkF m 2 #[.val (.ref a1), .val .null, .unset] [.null, (.ref a1)])) _
  refine own_back (fun t k => Jvm.RoadKit.acmp (g := (mkF m 2 #[.val (.ref a1), .val .null, .unset] [.null, (.ref a1)])) X0 hx rfl rfl rfl (pc0 := 2) (pc' := 7) (same := false) rfl (hb hby seqn_d2) rfl (decide_eq_false nofun) (by decide) (by decide) k) ?_
  show OwnGo p e below (s₁.setTop (mkF m 7 #[.val (.ref a1), .val .null, .unset] [])) _
  refine own_back (fun t k => XS.aloadN X0.here hx rfl (hb hby seqn_d7) rfl rfl k) ?_
  show OwnGo p e below (s₁.setTop (mkF m 8 #[.val (.ref a1), .val .null, .unset] [.null])) _
  refine own_back (fun t k => X0.instanceofNull hx (g := (mkF m 8 #[.val (.ref a1), .val .null, .unset] [.null])) rfl rfl (hb hby seqn_d8) t k) ?_
  show OwnGo p e below (s₁.setTop (mkF m 11 #[.val (.ref a1), .val .null, .unset] [(.int (0 : Int32))])) _
  refine own_back (fun t k => XS.ifYes X0.here hx rfl (pc0 := 11) (pc' := 54) rfl (hb hby seqn_d11) rfl (Jvm.Free.XT.i0_eq_t (by decide)) (by decide) (by decide) k) ?_
  show OwnGo p e below (s₁.setTop (mkF m 54 #[.val (.ref a1), .val .null, .unset] [])) _
  refine own_back (fun t k => XS.iconst X0.here hx rfl (hb hby seqn_d54) k) ?_
  show OwnGo p e below (s₁.setTop (mkF m 55 #[.val (.ref a1), .val .null, .unset] [(.int (0 : Int32))])) _
  refine own_retN X0 hx Bd.notSynchronized (t := .boolean) (z := (0 : Int32)) Bd.returns (by simp) rfl (hb hby seqn_d55) e0 (Nat.le_of_ble_eq_true rfl) (Nat.le_of_ble_eq_true rfl) ?_
  exact ⟨rfl, N0, rfl⟩
theorem si4_d0 : decode jdk_42_method_149_code 0 = .ok (.aload_n 0, 1) := by decide +kernel
theorem si4_d1 : decode jdk_42_method_149_code 1 = .ok (.invokespecial 1, 3) := by decide +kernel
theorem si4_d4 : decode jdk_42_method_149_code 4 = .ok (.iload_n 3, 1) := by decide +kernel
theorem si4_d5 : decode jdk_42_method_149_code 5 = .ok (.ifCond .ne 22, 3) := by decide +kernel
theorem si4_d8 : decode jdk_42_method_149_code 8 = .ok (.aload_n 0, 1) := by decide +kernel
theorem si4_d9 : decode jdk_42_method_149_code 9 = .ok (.ldc 7, 2) := by decide +kernel
theorem si4_d11 : decode jdk_42_method_149_code 11 = .ok (.getfield 9, 3) := by decide +kernel
theorem si4_d14 : decode jdk_42_method_149_code 14 = .ok (.putfield 9, 3) := by decide +kernel
theorem si4_d17 : decode jdk_42_method_149_code 17 = .ok (.aload_n 0, 1) := by decide +kernel
theorem si4_d18 : decode jdk_42_method_149_code 18 = .ok (.ldc 7, 2) := by decide +kernel
theorem si4_d20 : decode jdk_42_method_149_code 20 = .ok (.getfield 15, 3) := by decide +kernel
theorem si4_d23 : decode jdk_42_method_149_code 23 = .ok (.putfield 15, 3) := by decide +kernel
theorem si4_d26 : decode jdk_42_method_149_code 26 = .ok (.return_, 1) := by decide +kernel
theorem si4_pn : plainName "java/lang/String" = true := by first | (simp [plainName, overriddenIn]; done) | decide +kernel
theorem si4_ef (m : MethodId) (x0 : Addr) (x1 : Addr) (x2 : Int32) (x3 : Int32) : entryFrame m #[(.ref x0), (.ref x1), (.int x3), (.int x3), .null] 6 = mkF m 0 #[.val (.ref x0), .val (.ref x1), .val (.int x3), .val (.int x3), .val .null, .unset] [] := by first | (simp [entryFrame, mkF, argsToLocals, Value.category]; done) | rfl
set_option maxRecDepth 65536 in
set_option maxHeartbeats 40000000 in
theorem rm_si4 (l : Launch) (Z : State) (a0 : Array Value) (hw : ∀ d ∈ tables_1, d.before a0 Z = true) (ws : List Jvm.Cond) (a1 : Addr) (b1 : Addr) (uc : Value) (uv : Value) (h0 : Heap) (n0 : Nat) (Z0 : n0 ≤ h0.size) (OL : Old Z n0 h0) (E1 : Exa Z h0 a1 "java/lang/String") (F1 : Fld Z h0 a1 "java/lang/String" "coder" "B" uc) (F2 : Fld Z h0 a1 "java/lang/String" "value" "[B" uv) (g1 : n0 ≤ a1) :
    MetFree l (⟨"java/lang/String", "<init>", "([CIILjava/lang/Void;)V"⟩ : MethodName) (head1 (Jvm.Cond.code (⟨"java/lang/String", "<init>", "([CIILjava/lang/Void;)V"⟩ : MethodName) jdk_42_method_149_code 6 none :: ws) ({ frames := 1, cells := 4, slots := 8, locals := 12 } : Room)) (fun a U => a = #[(.ref a1), (.ref b1), (.int (0 : Int32)), (.int (0 : Int32)), .null] ∧ Z.Warmed39 U.vm ∧ U.heap = h0 ∧ CHv Z own_EL U.vm h0 ∧ ∀ x ∈ ([a1] : List Addr), Safe Z own_EL U.vm h0 x) (fun _ _ _ _ _ => True) (fun _ U o U' => OwnEndW Z own_EL U (fun v h L => v = none ∧ Fr n0 L ∧ Keep h0 h [a1] ∧ OwnStr Z h a1 []) ({ frames := 1, cells := 4, slots := 8, locals := 12 } : Room).cells ({ frames := 1, cells := 4, slots := 8, locals := 12 } : Room).slots o U') := by
  refine MetFree.of_bodySF (plainFor_of_name si4_pn) hisR ?_
  intro p e s m args below meth c s₁ Bd hml0 hP hK
  obtain ⟨rfl, hZ, hh, hCH, hSL⟩ := hP
  have hx := Bd.exec
  have hby := Bd.bytes
  have hml : c.maxLocals = 6 := hml0
  have hown : s.vm.findClass "java/lang/String" = some m.cls := findClass_of_methodNamed Bd.named
  have hnm := (name_of_methodNamed Bd.named Bd.method).1
  have X0 : Stand p l e ({ frames := 1, cells := 4, slots := 8, locals := 12 } : Room) (s.setVm s.vm) m #[(.ref a1), (.ref b1), (.int (0 : Int32)), (.int (0 : Int32)), .null] below meth c s₁ [] 0 0 := Stand.of_body Bd
  have e0 : s₁.heap = h0 := by rw [← hh, Bd.state]; rfl
  have N0 := Fr.nil n0
  have KP0 := Keep.refl h0 [a1]
  have hown : (s.setVm s.vm).vm.findClass "java/lang/String" = some m.cls := hown
  have hZ : Z.Warmed39 (s.setVm s.vm).vm := hZ
  have hS0 : s.Since s.vm 0 := (State.WarmedH.refl s).since 0
  have hk0 : 0 ≤ h0.size := Nat.zero_le _
  have CR0 : CHr Z own_EL s.vm h0 s.vm h0 := CHr.refl hCH
  have hEL := own_EW hw
  have sf_a1 := hSL a1 (List.mem_of_getElem? (i := 0) rfl)
  refine own_go (Q := (OwnEndW Z own_EL s (fun v h L => v = none ∧ Fr n0 L ∧ Keep h0 h [a1] ∧ OwnStr Z h a1 []) ({ frames := 1, cells := 4, slots := 8, locals := 12 } : Room).cells ({ frames := 1, cells := 4, slots := 8, locals := 12 } : Room).slots)) ?_
  refine own_back (fun t k => castTop (si4_ef m a1 b1 (0 : Int32) (0 : Int32)) k) ?_
  show OwnGo p e below (s₁.setTop (mkF m 0 #[.val (.ref a1), .val (.ref b1), .val (.int (0 : Int32)), .val (.int (0 : Int32)), .val .null, .unset] [])) _
  refine own_back (fun t k => XS.aloadN X0.here hx rfl (hb hby si4_d0) rfl rfl k) ?_
  show OwnGo p e below (s₁.setTop (mkF m 1 #[.val (.ref a1), .val (.ref b1), .val (.int (0 : Int32)), .val (.int (0 : Int32)), .val .null, .unset] [(.ref a1)])) _
  obtain ⟨T122, X122, e122, st122⟩ := initO X0 hx hZ hown (hw _ (List.mem_of_getElem? (i := 16) rfl)) (hw _ (List.mem_of_getElem? (i := 17) rfl)) (hw _ (List.mem_of_getElem? (i := 18) rfl)) e0 (g := (mkF m 1 #[.val (.ref a1), .val (.ref b1), .val (.int (0 : Int32)), .val (.int (0 : Int32)), .val .null, .unset] [(.ref a1)])) rfl (by rw [hml]; rfl) rfl (hb hby si4_d1) (by decide) (W := 0) (by show 2 * 0 + _ ≤ _; exact Nat.le_of_eq rfl) (by decide)
  refine own_back st122 ?_
  show OwnGo p e below (T122.setTop (mkF m 4 #[.val (.ref a1), .val (.ref b1), .val (.int (0 : Int32)), .val (.int (0 : Int32)), .val .null, .unset] [])) _
  refine own_back (fun t k => XS.iloadN X122.here hx rfl (hb hby si4_d4) rfl k) ?_
  show OwnGo p e below (T122.setTop (mkF m 5 #[.val (.ref a1), .val (.ref b1), .val (.int (0 : Int32)), .val (.int (0 : Int32)), .val .null, .unset] [(.int (0 : Int32))])) _
  refine own_back (fun t k => XS.ifNo X122.here hx rfl (hb hby si4_d5) rfl (Jvm.Free.XT.i0_ne_f (by decide)) k) ?_
  show OwnGo p e below (T122.setTop (mkF m 8 #[.val (.ref a1), .val (.ref b1), .val (.int (0 : Int32)), .val (.int (0 : Int32)), .val .null, .unset] [])) _
  refine own_back (fun t k => XS.aloadN X122.here hx rfl (hb hby si4_d8) rfl rfl k) ?_
  show OwnGo p e below (T122.setTop (mkF m 9 #[.val (.ref a1), .val (.ref b1), .val (.int (0 : Int32)), .val (.int (0 : Int32)), .val .null, .unset] [(.ref a1)])) _
  obtain ⟨a123, T123, h123, k1123, t123, kb123, X123, e123, E123, hS123, hk123, hZ123, hown123, EX123, FC123, FV123, AV123, la123, lb123, CRl123, hLit123, sx123, st123⟩ := ldcCH X122 hx hZ hown (hw _ (List.mem_of_getElem? (i := 84) rfl)) (own_wS hw) e122 hS0 hk0 hEL (List.mem_of_getElem? (i := 3) rfl) CR0.1 (vs := []) (z := 0) ⟨by decide, by decide⟩ (by decide) (by decide) (g := (mkF m 9 #[.val (.ref a1), .val (.ref b1), .val (.int (0 : Int32)), .val (.int (0 : Int32)), .val .null, .unset] [(.ref a1)])) rfl (hb hby si4_d9) (n := 0) (Nat.le_of_ble_eq_true rfl) (by decide) (Nat.le_of_ble_eq_true rfl) (Nat.le_of_ble_eq_true rfl)
  have O124 := OL.ext E123
  have KP125 := KP0.ext E123
  have Zs126 := Nat.le_trans Z0 E123.1
  have CR127 := CR0.trans CRl123
  have f128 := (CRl123.safe E1.lt sf_a1)
  have f129 := E1.ext E123
  have f130 := F1.ext E123
  have f131 := F2.ext E123
  refine own_back st123 ?_
  show OwnGo p e below (T123.setTop (mkF m 11 #[.val (.ref a1), .val (.ref b1), .val (.int (0 : Int32)), .val (.int (0 : Int32)), .val .null, .unset] [(.ref a123), (.ref a1)])) _
  obtain ⟨T132, X132, e132, st132⟩ := getF X123 hx hZ123 hown123 (host := "") (Or.inl (hw _ (List.mem_of_getElem? (i := 33) rfl))) Via.refl e123 FV123 (g := (mkF m 11 #[.val (.ref a1), .val (.ref b1), .val (.int (0 : Int32)), .val (.int (0 : Int32)), .val .null, .unset] [(.ref a123), (.ref a1)])) rfl rfl (hb hby si4_d11)
  refine own_back st132 ?_
  show OwnGo p e below (T132.setTop (mkF m 14 #[.val (.ref a1), .val (.ref b1), .val (.int (0 : Int32)), .val (.int (0 : Int32)), .val .null, .unset] [(.ref t123), (.ref a1)])) _
  obtain ⟨T133, h133, X133, e133, W133, st133⟩ := putF X132 hx hZ123 hown123 (host := "") (Or.inl (hw _ (List.mem_of_getElem? (i := 33) rfl))) Via.refl e132 f131 f129 (Or.inr ⟨(hw _ (List.mem_of_getElem? (i := 34) rfl)), rfl, hnm⟩) (hw _ (List.mem_of_getElem? (i := 7) rfl)) (ty := (.array .byte)) (by decide) rfl rfl (g := (mkF m 14 #[.val (.ref a1), .val (.ref b1), .val (.int (0 : Int32)), .val (.int (0 : Int32)), .val .null, .unset] [(.ref t123), (.ref a1)])) rfl rfl (hb hby si4_d14)
  have O134 := O124.wr W133 g1
  have KP135 := KP125.wr W133 (Or.inl (List.mem_of_getElem? (i := 0) rfl))
  have Zs136 := Nat.le_trans Zs126 (Keep.of_wr W133).1
  have CR137 := CR127.trans (CHr.wr W133 f128 CR127.1)
  have hk138 := Nat.le_trans hk123 (Keep.of_wr W133).1
  have f139 := (Safe.wr W133 f128 CR127.1 f128)
  have f140 := f129.wr W133
  have f141 := f130.other W133 (Or.inr (slot_ne (Or.inr (hw _ (List.mem_of_getElem? (i := 32) rfl))) (Or.inr (hw _ (List.mem_of_getElem? (i := 34) rfl))) (by decide) (t := .byte) (t' := (.array .byte)) (by decide) (by decide)))
  have f142 := EX123.wr W133
  have f143 := FC123.other W133 (Or.inl (Ne.symm (sx123 a1 f128).1))
  have f144 := FV123.other W133 (Or.inl (Ne.symm (sx123 a1 f128).1))
  have f145 := AV123.other W133 (Ne.symm (sx123 a1 f128).2)
  have F146 := f131.same W133
  have N147 := Fr.snoc X133 N0 g1
  refine own_back st133 ?_
  show OwnGo p e below (T133.setTop (mkF m 17 #[.val (.ref a1), .val (.ref b1), .val (.int (0 : Int32)), .val (.int (0 : Int32)), .val .null, .unset] [])) _
  refine own_back (fun t k => XS.aloadN X133.here hx rfl (hb hby si4_d17) rfl rfl k) ?_
  show OwnGo p e below (T133.setTop (mkF m 18 #[.val (.ref a1), .val (.ref b1), .val (.int (0 : Int32)), .val (.int (0 : Int32)), .val .null, .unset] [(.ref a1)])) _
  obtain ⟨a148, T148, h148, k1148, t148, kb148, X148, e148, E148, hS148, hk148, hZ148, hown148, EX148, FC148, FV148, AV148, la148, lb148, CRl148, hLit148, sx148, st148⟩ := ldcCH X133 hx hZ123 hown123 (hw _ (List.mem_of_getElem? (i := 84) rfl)) (own_wS hw) e133 hS123 hk138 hEL (List.mem_of_getElem? (i := 3) rfl) CR137.1 (vs := []) (z := 0) ⟨by decide, by decide⟩ (by decide) (by decide) (g := (mkF m 18 #[.val (.ref a1), .val (.ref b1), .val (.int (0 : Int32)), .val (.int (0 : Int32)), .val .null, .unset] [(.ref a1)])) rfl (hb hby si4_d18) (n := 0) (Nat.le_of_ble_eq_true rfl) (by decide) (Nat.le_of_ble_eq_true rfl) (Nat.le_of_ble_eq_true rfl)
  have O149 := O134.ext E148
  have KP150 := KP135.ext E148
  have Zs151 := Nat.le_trans Zs136 E148.1
  have CR152 := CR137.trans CRl148
  have f153 := (CRl148.safe f140.lt f139)
  have f154 := f140.ext E148
  have f155 := f141.ext E148
  have f156 := f142.ext E148
  have f157 := f143.ext E148
  have f158 := f144.ext E148
  have f159 := f145.ext E148
  have f160 := F146.ext E148
  refine own_back st148 ?_
  show OwnGo p e below (T148.setTop (mkF m 20 #[.val (.ref a1), .val (.ref b1), .val (.int (0 : Int32)), .val (.int (0 : Int32)), .val .null, .unset] [(.ref a148), (.ref a1)])) _
  obtain ⟨T161, X161, e161, st161⟩ := getF X148 hx hZ148 hown148 (host := "") (Or.inl (hw _ (List.mem_of_getElem? (i := 31) rfl))) Via.refl e148 FC148 (g := (mkF m 20 #[.val (.ref a1), .val (.ref b1), .val (.int (0 : Int32)), .val (.int (0 : Int32)), .val .null, .unset] [(.ref a148), (.ref a1)])) rfl rfl (hb hby si4_d20)
  refine own_back st161 ?_
  show OwnGo p e below (T161.setTop (mkF m 23 #[.val (.ref a1), .val (.ref b1), .val (.int (0 : Int32)), .val (.int (0 : Int32)), .val .null, .unset] [(.int (0 : Int32)), (.ref a1)])) _
  obtain ⟨T162, h162, X162, e162, W162, st162⟩ := putF X161 hx hZ148 hown148 (host := "") (Or.inl (hw _ (List.mem_of_getElem? (i := 31) rfl))) Via.refl e161 f155 f154 (Or.inr ⟨(hw _ (List.mem_of_getElem? (i := 32) rfl)), rfl, hnm⟩) (hw _ (List.mem_of_getElem? (i := 7) rfl)) (ty := .byte) (by decide) rfl rfl (g := (mkF m 23 #[.val (.ref a1), .val (.ref b1), .val (.int (0 : Int32)), .val (.int (0 : Int32)), .val .null, .unset] [(.int (0 : Int32)), (.ref a1)])) rfl rfl (hb hby si4_d23)
  have O163 := O149.wr W162 g1
  have KP164 := KP150.wr W162 (Or.inl (List.mem_of_getElem? (i := 0) rfl))
  have Zs165 := Nat.le_trans Zs151 (Keep.of_wr W162).1
  have CR166 := CR152.trans (CHr.wr W162 f153 CR152.1)
  have hk167 := Nat.le_trans hk148 (Keep.of_wr W162).1
  have f168 := (Safe.wr W162 f153 CR152.1 f153)
  have f169 := f154.wr W162
  have f170 := f156.wr W162
  have f171 := f157.other W162 (Or.inl (Ne.symm (sx123 a1 f128).1))
  have f172 := f158.other W162 (Or.inl (Ne.symm (sx123 a1 f128).1))
  have f173 := f159.other W162 (Ne.symm (sx123 a1 f128).2)
  have f174 := f160.other W162 (Or.inr (slot_ne (Or.inr (hw _ (List.mem_of_getElem? (i := 34) rfl))) (Or.inr (hw _ (List.mem_of_getElem? (i := 32) rfl))) (by decide) (t := (.array .byte)) (t' := .byte) (by decide) (by decide)))
  have f175 := EX148.wr W162
  have f176 := FC148.other W162 (Or.inl (Ne.symm (sx148 a1 f153).1))
  have f177 := FV148.other W162 (Or.inl (Ne.symm (sx148 a1 f153).1))
  have f178 := AV148.other W162 (Ne.symm (sx148 a1 f153).2)
  have F179 := f155.same W162
  have N180 := Fr.snoc X162 N147 g1
  refine own_back st162 ?_
  show OwnGo p e below (T162.setTop (mkF m 26 #[.val (.ref a1), .val (.ref b1), .val (.int (0 : Int32)), .val (.int (0 : Int32)), .val .null, .unset] [])) _
  refine own_retVW X162 hx Bd.notSynchronized Bd.returns hS148 hk167 hZ148 hEL (hh ▸ CR166) (hb hby si4_d26) e162 (Nat.le_of_ble_eq_true rfl) (Nat.le_of_ble_eq_true rfl) ?_
  exact ⟨rfl, N180, KP164, t123, _, f169, F179, f174, f173, Nat.le_of_ble_eq_true rfl⟩
theorem si1_d0 : decode jdk_42_method_3_code 0 = .ok (.aload_n 0, 1) := by decide +kernel
theorem si1_d1 : decode jdk_42_method_3_code 1 = .ok (.aload_n 1, 1) := by decide +kernel
theorem si1_d2 : decode jdk_42_method_3_code 2 = .ok (.iconst 0, 1) := by decide +kernel
theorem si1_d3 : decode jdk_42_method_3_code 3 = .ok (.aload_n 1, 1) := by decide +kernel
theorem si1_d4 : decode jdk_42_method_3_code 4 = .ok (.arraylength, 1) := by decide +kernel
theorem si1_d5 : decode jdk_42_method_3_code 5 = .ok (.aconst_null, 1) := by decide +kernel
theorem si1_d6 : decode jdk_42_method_3_code 6 = .ok (.invokespecial 27, 3) := by decide +kernel
theorem si1_d9 : decode jdk_42_method_3_code 9 = .ok (.return_, 1) := by decide +kernel
theorem si1_pn : plainName "java/lang/String" = true := by first | (simp [plainName, overriddenIn]; done) | decide +kernel
theorem si1_pd0 : parseMethodDescriptor "([CIILjava/lang/Void;)V" = some ⟨[(.array .char), .int, .int, (.object "java/lang/Void")], none⟩ := by decide +kernel
theorem si1_ef (m : MethodId) (x0 : Addr) (x1 : Addr) : entryFrame m #[(.ref x0), (.ref x1)] 2 = mkF m 0 #[.val (.ref x0), .val (.ref x1)] [] := by first | (simp [entryFrame, mkF, argsToLocals, Value.category]; done) | rfl
set_option maxRecDepth 65536 in
set_option maxHeartbeats 40000000 in
theorem rm_si1 (l : Launch) (Z : State) (a0 : Array Value) (hw : ∀ d ∈ tables_1, d.before a0 Z = true) (ws : List Jvm.Cond) (a1 : Addr) (b1 : Addr) (uc : Value) (uv : Value) (kc : ClassId) (h0 : Heap) (n0 : Nat) (Z0 : n0 ≤ h0.size) (OL : Old Z n0 h0) (E1 : Exa Z h0 a1 "java/lang/String") (F1 : Fld Z h0 a1 "java/lang/String" "coder" "B" uc) (F2 : Fld Z h0 a1 "java/lang/String" "value" "[B" uv) (g1 : n0 ≤ a1) (V1 : Arv Z h0 b1 kc .char (0 : Int32) [] (.int 0)) :
    MetFree l (⟨"java/lang/String", "<init>", "([C)V"⟩ : MethodName) (head1 (Jvm.Cond.code (⟨"java/lang/String", "<init>", "([C)V"⟩ : MethodName) jdk_42_method_3_code 2 none :: ws) ({ frames := 2, cells := 4, slots := 8, locals := 30 } : Room)) (fun a U => a = #[(.ref a1), (.ref b1)] ∧ Z.Warmed39 U.vm ∧ U.heap = h0 ∧ CHv Z own_EL U.vm h0 ∧ ∀ x ∈ ([a1] : List Addr), Safe Z own_EL U.vm h0 x) (fun _ _ _ _ _ => True) (fun _ U o U' => OwnEndW Z own_EL U (fun v h L => v = none ∧ Fr n0 L ∧ Keep h0 h [a1] ∧ OwnStr Z h a1 []) ({ frames := 2, cells := 4, slots := 8, locals := 30 } : Room).cells ({ frames := 2, cells := 4, slots := 8, locals := 30 } : Room).slots o U') := by
  refine MetFree.of_bodySF (plainFor_of_name si1_pn) hisR ?_
  intro p e s m args below meth c s₁ Bd hml0 hP hK
  obtain ⟨rfl, hZ, hh, hCH, hSL⟩ := hP
  have hx := Bd.exec
  have hby := Bd.bytes
  have hml : c.maxLocals = 2 := hml0
  have hown : s.vm.findClass "java/lang/String" = some m.cls := findClass_of_methodNamed Bd.named
  have hnm := (name_of_methodNamed Bd.named Bd.method).1
  have X0 : Stand p l e ({ frames := 2, cells := 4, slots := 8, locals := 30 } : Room) (s.setVm s.vm) m #[(.ref a1), (.ref b1)] below meth c s₁ [] 0 0 := Stand.of_body Bd
  have e0 : s₁.heap = h0 := by rw [← hh, Bd.state]; rfl
  have N0 := Fr.nil n0
  have KP0 := Keep.refl h0 [a1]
  have hown : (s.setVm s.vm).vm.findClass "java/lang/String" = some m.cls := hown
  have hZ : Z.Warmed39 (s.setVm s.vm).vm := hZ
  have hS0 : s.Since s.vm 0 := (State.WarmedH.refl s).since 0
  have hk0 : 0 ≤ h0.size := Nat.zero_le _
  have CR0 : CHr Z own_EL s.vm h0 s.vm h0 := CHr.refl hCH
  have hEL := own_EW hw
  have sf_a1 := hSL a1 (List.mem_of_getElem? (i := 0) rfl)
  refine own_go (Q := (OwnEndW Z own_EL s (fun v h L => v = none ∧ Fr n0 L ∧ Keep h0 h [a1] ∧ OwnStr Z h a1 []) ({ frames := 2, cells := 4, slots := 8, locals := 30 } : Room).cells ({ frames := 2, cells := 4, slots := 8, locals := 30 } : Room).slots)) ?_
  refine own_back (fun t k => castTop (si1_ef m a1 b1) k) ?_
  show OwnGo p e below (s₁.setTop (mkF m 0 #[.val (.ref a1), .val (.ref b1)] [])) _
  refine own_back (fun t k => XS.aloadN X0.here hx rfl (hb hby si1_d0) rfl rfl k) ?_
  show OwnGo p e below (s₁.setTop (mkF m 1 #[.val (.ref a1), .val (.ref b1)] [(.ref a1)])) _
  refine own_back (fun t k => XS.aloadN X0.here hx rfl (hb hby si1_d1) rfl rfl k) ?_
  show OwnGo p e below (s₁.setTop (mkF m 2 #[.val (.ref a1), .val (.ref b1)] [(.ref b1), (.ref a1)])) _
  refine own_back (fun t k => XS.iconst X0.here hx rfl (hb hby si1_d2) k) ?_
  show OwnGo p e below (s₁.setTop (mkF m 3 #[.val (.ref a1), .val (.ref b1)] [(.int (0 : Int32)), (.ref b1), (.ref a1)])) _
  refine own_back (fun t k => XS.aloadN X0.here hx rfl (hb hby si1_d3) rfl rfl k) ?_
  show OwnGo p e below (s₁.setTop (mkF m 4 #[.val (.ref a1), .val (.ref b1)] [(.ref b1), (.int (0 : Int32)), (.ref b1), (.ref a1)])) _
  obtain ⟨c181, A181, q181, S181, M181, H181, U181⟩ := id V1
  refine own_back (fun t k => X0.arraylength hx (own_hat e0 A181.1) (State.isArrayOf_alike hZ.alike A181.2.1) (g := (mkF m 4 #[.val (.ref a1), .val (.ref b1)] [(.ref b1), (.int (0 : Int32)), (.ref b1), (.ref a1)])) rfl rfl (hb hby si1_d4) t k) ?_
  rw [len_of S181 M181]
  show OwnGo p e below (s₁.setTop (mkF m 5 #[.val (.ref a1), .val (.ref b1)] [(.int (0 : Int32)), (.int (0 : Int32)), (.ref b1), (.ref a1)])) _
  refine own_back (fun t k => XS.aconstNull X0.here hx rfl (hb hby si1_d5) k) ?_
  show OwnGo p e below (s₁.setTop (mkF m 6 #[.val (.ref a1), .val (.ref b1)] [.null, (.int (0 : Int32)), (.int (0 : Int32)), (.ref b1), (.ref a1)])) _
  obtain ⟨_, _, ⟨T182, L182, k182, n182⟩, -, X182, hSn182, hgr182, ⟨Lc182, hQ182, l182, y182, z182, CRn182⟩, st182⟩ := X0.specialBackS hx (y := (⟨"java/lang/String", "<init>", "([CIILjava/lang/Void;)V"⟩ : MethodName)) rfl hown (mvT hZ (hw _ (List.mem_of_getElem? (i := 12) rfl))) (mvT hZ (hw _ (List.mem_of_getElem? (i := 13) rfl))) (mvT hZ (hw _ (List.mem_of_getElem? (i := 15) rfl))) (by decide) (own_backH (W := 0) (rm_si4 l Z a0 hw [] a1 b1 uc uv h0 n0 Z0 OL E1 F1 F2 g1) hZ (hw _ (List.mem_of_getElem? (i := 15) rfl)) (hw _ (List.mem_of_getElem? (i := 8) rfl)) (by decide) (by decide) hEL CR0.1 (sfS sf_a1 sf0) (allS E1.lt all0)) (g := (mkF m 6 #[.val (.ref a1), .val (.ref b1)] [.null, (.int (0 : Int32)), (.int (0 : Int32)), (.ref b1), (.ref a1)])) rfl (by rw [hml]; rfl) (Steps.refl _) (a := a1) (argsL := [(.ref b1), (.int (0 : Int32)), (.int (0 : Int32)), .null]) (rest := []) (lenOf si1_pd0 rfl) rfl (by show 2 * 0 + _ ≤ _; exact Nat.le_of_eq rfl) (hb hby si1_d6) (fun _ _ => ⟨rfl, e0, Nat.le_of_ble_eq_true rfl, Nat.le_of_ble_eq_true rfl⟩)
  dsimp only [Pt.U, Pt.locs, Pt.cells, Pt.slots] at X182 l182 y182 z182 st182 hQ182 hSn182 hgr182 CRn182
  subst l182 y182 z182
  obtain ⟨Xr182, hSr182, hZr182, hownr182⟩ := rebS hS0 (own_hle e0 hk0) X182 hSn182 hgr182 hZ hown
  obtain ⟨rfl, N182q, K182, B182⟩ := hQ182
  refine own_seq st182 ?_
  have N182 := Fr.app N0 N182q
  show OwnGo p e below (T182.setTop (mkF m 9 #[.val (.ref a1), .val (.ref b1)] [])) _
  refine own_retVW Xr182 hx Bd.notSynchronized Bd.returns hSr182 (Nat.le_refl _) hZr182 hEL (hh ▸ (CR0.trans CRn182)) (hb hby si1_d9) rfl (Nat.le_of_ble_eq_true rfl) (Nat.le_of_ble_eq_true rfl) ?_
  exact ⟨rfl, N182, K182, B182⟩
theorem va_d0 : decode prog_29_method_1_code 0 = .ok (.getstatic 13, 3) := by decide +kernel
theorem va_d3 : decode prog_29_method_1_code 3 = .ok (.invokevirtual 17, 3) := by decide +kernel
theorem va_d6 : decode prog_29_method_1_code 6 = .ok (.checkcast 18, 3) := by decide +kernel
theorem va_d9 : decode prog_29_method_1_code 9 = .ok (.areturn, 1) := by decide +kernel
theorem va_pn : plainName "com/example/indexwright/indexwright/marketdata/ShareAdjustment$Kind" = true := by first | (simp [plainName, overriddenIn]; done) | decide +kernel
theorem va_ef (m : MethodId)  : entryFrame m #[] 0 = mkF m 0 #[] [] := by first | (simp [entryFrame, mkF, argsToLocals, Value.category]; done) | rfl
set_option maxRecDepth 65536 in
set_option maxHeartbeats 40000000 in
theorem rm_val (l : Launch) (Z : State) (a0 : Array Value) (hw : ∀ d ∈ tables_1, d.before a0 Z = true) (ws : List Jvm.Cond) (wS : Addr) (wD : Addr) (wR : Addr) (wV : Addr) (kV : ClassId) (kS : Addr) (kD : Addr) (kR : Addr) (cz : Int32) (h0 : Heap) (n0 : Nat) (Z0 : n0 ≤ h0.size) (OL : Old Z n0 h0) (SV : Sta Z Z.heap "com/example/indexwright/indexwright/marketdata/ShareAdjustment$Kind" "$VALUES" "[Lcom/example/indexwright/indexwright/marketdata/ShareAdjustment$Kind;" (.ref wV)) (AV : Arv Z Z.heap wV kV (.object "com/example/indexwright/indexwright/marketdata/ShareAdjustment$Kind") 3 [.ref wS, .ref wD, .ref wR] .null) (EV : Exa Z Z.heap wV "[Lcom/example/indexwright/indexwright/marketdata/ShareAdjustment$Kind;") (FV : ∀ c, Z.heap[wV]? = some c → FitC Z c) (FS : Fld Z Z.heap wS "com/example/indexwright/indexwright/marketdata/ShareAdjustment$Kind" "type" "Ljava/lang/String;" (.ref kS)) (FD : Fld Z Z.heap wD "com/example/indexwright/indexwright/marketdata/ShareAdjustment$Kind" "type" "Ljava/lang/String;" (.ref kD)) (FR : Fld Z Z.heap wR "com/example/indexwright/indexwright/marketdata/ShareAdjustment$Kind" "type" "Ljava/lang/String;" (.ref kR)) (BS : OwnStr Z Z.heap kS [115, 112, 108, 105, 116]) (BD : OwnStr Z Z.heap kD [115, 116, 111, 99, 107, 45, 100, 105, 115, 116, 114, 105, 98, 117, 116, 105, 111, 110]) (BR : OwnStr Z Z.heap kR [114, 105, 103, 104, 116, 115, 45, 105, 115, 115, 117, 101]) (SC : Sta Z Z.heap "java/lang/String" "COMPACT_STRINGS" "Z" (.int cz)) (hcz : ¬ cz = 0) :
    MetFree l (⟨"com/example/indexwright/indexwright/marketdata/ShareAdjustment$Kind", "values", "()[Lcom/example/indexwright/indexwright/marketdata/ShareAdjustment$Kind;"⟩ : MethodName) (head1 (Jvm.Cond.code (⟨"com/example/indexwright/indexwright/marketdata/ShareAdjustment$Kind", "values", "()[Lcom/example/indexwright/indexwright/marketdata/ShareAdjustment$Kind;"⟩ : MethodName) prog_29_method_1_code 0 (some (.array (.object "com/example/indexwright/indexwright/marketdata/ShareAdjustment$Kind"))) :: ws) ({ frames := 1, cells := 1, slots := 3, locals := 14 } : Room)) (fun a U => a = #[] ∧ Z.Warmed39 U.vm ∧ U.heap = h0) (fun _ _ _ _ _ => True) (fun _ U o U' => OwnEnd U (fun v h L => ∃ a, v = some (.ref a) ∧ Fr n0 L ∧ Ext h0 h ∧ Arv Z h a kV (.object "com/example/indexwright/indexwright/marketdata/ShareAdjustment$Kind") 3 [.ref wS, .ref wD, .ref wR] .null ∧ h0.size ≤ a) ({ frames := 1, cells := 1, slots := 3, locals := 14 } : Room).cells ({ frames := 1, cells := 1, slots := 3, locals := 14 } : Room).slots o U') := by
  refine MetFree.of_bodySF (plainFor_of_name va_pn) hisR ?_
  intro p e s m args below meth c s₁ Bd hml0 hP hK
  obtain ⟨rfl, hZ, hh⟩ := hP
  have hx := Bd.exec
  have hby := Bd.bytes
  have hml : c.maxLocals = 0 := hml0
  have hown : s.vm.findClass "com/example/indexwright/indexwright/marketdata/ShareAdjustment$Kind" = some m.cls := findClass_of_methodNamed Bd.named
  have hnm := (name_of_methodNamed Bd.named Bd.method).1
  have X0 : Stand p l e ({ frames := 1, cells := 1, slots := 3, locals := 14 } : Room) s m #[] below meth c s₁ [] 0 0 := Stand.of_body Bd
  have e0 : s₁.heap = h0 := by rw [← hh, Bd.state]; rfl
  have N0 := Fr.nil n0
  have KP0 := Keep.refl h0 []
  refine own_go (Q := (OwnEnd s (fun v h L => ∃ a, v = some (.ref a) ∧ Fr n0 L ∧ Ext h0 h ∧ Arv Z h a kV (.object "com/example/indexwright/indexwright/marketdata/ShareAdjustment$Kind") 3 [.ref wS, .ref wD, .ref wR] .null ∧ h0.size ≤ a) ({ frames := 1, cells := 1, slots := 3, locals := 14 } : Room).cells ({ frames := 1, cells := 1, slots := 3, locals := 14 } : Room).slots)) ?_
  refine own_back (fun t k => castTop (va_ef m ) k) ?_
  show OwnGo p e below (s₁.setTop (mkF m 0 #[] [])) _
  obtain ⟨T183, X183, e183, st183⟩ := getS2 X0 hx hZ hown (host := "") (Or.inl (hw _ (List.mem_of_getElem? (i := 42) rfl))) Via.refl e0 (SV.ext OL.2) (g := (mkF m 0 #[] [])) rfl (hb hby va_d0)
  refine own_back st183 ?_
  show OwnGo p e below (T183.setTop (mkF m 3 #[] [(.ref wV)])) _
  obtain ⟨cv, Av, qv, Sv, Mv, Hv, Uv⟩ := id AV
  obtain ⟨T184, h184, X184, e184, E184, A184, EX184, st184⟩ := cloneA X183 hx hZ hown (hw _ (List.mem_of_getElem? (i := 44) rfl)) (hw _ (List.mem_of_getElem? (i := 45) rfl)) (hw _ (List.mem_of_getElem? (i := 49) rfl)) (hw _ (List.mem_of_getElem? (i := 47) rfl)) (hw _ (List.mem_of_getElem? (i := 48) rfl)) (hw _ (List.mem_of_getElem? (i := 50) rfl)) e183 (Av.ext OL.2) (EV.ext OL.2) (FV _ Av.1) (g := (mkF m 3 #[] [(.ref wV)])) rfl (by rw [hml]; rfl) rfl (hb hby va_d3) (by decide) (W := 0) (cap := 3) (by show 2 * 0 + _ ≤ _; exact Nat.le_of_eq rfl) (by decide) (by rw [Sv]; decide) (Nat.le_of_ble_eq_true rfl) (Nat.le_of_ble_eq_true rfl)
  obtain ⟨b184, g184⟩ : ∃ z, z = h0.size := ⟨_, rfl⟩
  have ge185 : n0 ≤ b184 := Nat.le_trans Z0 (Nat.le_of_eq g184.symm)
  have sz186 : h0.size ≤ b184 := Nat.le_trans KP0.1 (Nat.le_of_eq g184.symm)
  rw [← g184] at A184 EX184 st184
  have O187 := OL.ext E184
  have KP188 := KP0.ext E184
  have Zs189 := Nat.le_trans Z0 E184.1
  have V190 : Arv Z h184 b184 kV (.object "com/example/indexwright/indexwright/marketdata/ShareAdjustment$Kind") 3 [.ref wS, .ref wD, .ref wR] .null := ⟨_, A184, qv, Sv, Mv, Hv, Uv⟩
  refine own_back st184 ?_
  show OwnGo p e below (T184.setTop (mkF m 6 #[] [(.ref b184)])) _
  obtain ⟨T191, X191, e191, st191⟩ := castY X184 hx hZ hown (hw _ (List.mem_of_getElem? (i := 55) rfl)) e184 (Ins.self EX184) (g := (mkF m 6 #[] [(.ref b184)])) rfl rfl (hb hby va_d6)
  refine own_back st191 ?_
  show OwnGo p e below (T191.setTop (mkF m 9 #[] [(.ref b184)])) _
  refine own_retA X191 hx Bd.notSynchronized Bd.returns rfl rfl (hb hby va_d9) e191 (Nat.le_of_ble_eq_true rfl) (Nat.le_of_ble_eq_true rfl) ?_
  exact ⟨b184, rfl, N0, own_ext KP188, V190, sz186⟩
theorem of_d0 : decode prog_29_method_7_code 0 = .ok (.invokestatic 45, 3) := by decide +kernel
theorem of_d3 : decode prog_29_method_7_code 3 = .ok (.astore_n 1, 1) := by decide +kernel
theorem of_d4 : decode prog_29_method_7_code 4 = .ok (.aload_n 1, 1) := by decide +kernel
theorem of_d5 : decode prog_29_method_7_code 5 = .ok (.arraylength, 1) := by decide +kernel
theorem of_d6 : decode prog_29_method_7_code 6 = .ok (.istore_n 2, 1) := by decide +kernel
theorem of_d7 : decode prog_29_method_7_code 7 = .ok (.iconst 0, 1) := by decide +kernel
theorem of_d8 : decode prog_29_method_7_code 8 = .ok (.istore_n 3, 1) := by decide +kernel
theorem of_d9 : decode prog_29_method_7_code 9 = .ok (.iload_n 3, 1) := by decide +kernel
theorem of_d10 : decode prog_29_method_7_code 10 = .ok (.iload_n 2, 1) := by decide +kernel
theorem of_d11 : decode prog_29_method_7_code 11 = .ok (.if_icmp .ge 29, 3) := by decide +kernel
theorem of_d14 : decode prog_29_method_7_code 14 = .ok (.aload_n 1, 1) := by decide +kernel
theorem of_d15 : decode prog_29_method_7_code 15 = .ok (.iload_n 3, 1) := by decide +kernel
theorem of_d16 : decode prog_29_method_7_code 16 = .ok (.aaload, 1) := by decide +kernel
theorem of_d17 : decode prog_29_method_7_code 17 = .ok (.astore 4, 2) := by decide +kernel
theorem of_d19 : decode prog_29_method_7_code 19 = .ok (.aload 4, 2) := by decide +kernel
theorem of_d21 : decode prog_29_method_7_code 21 = .ok (.getfield 32, 3) := by decide +kernel
theorem of_d24 : decode prog_29_method_7_code 24 = .ok (.aload_n 0, 1) := by decide +kernel
theorem of_d25 : decode prog_29_method_7_code 25 = .ok (.invokevirtual 49, 3) := by decide +kernel
theorem of_d28 : decode prog_29_method_7_code 28 = .ok (.ifCond .eq 6, 3) := by decide +kernel
theorem of_d31 : decode prog_29_method_7_code 31 = .ok (.aload 4, 2) := by decide +kernel
theorem of_d33 : decode prog_29_method_7_code 33 = .ok (.areturn, 1) := by decide +kernel
theorem of_d34 : decode prog_29_method_7_code 34 = .ok (.iinc 3 1, 3) := by decide +kernel
theorem of_d37 : decode prog_29_method_7_code 37 = .ok (.goto (-28), 3) := by decide +kernel
theorem of_d40 : decode prog_29_method_7_code 40 = .ok (.aconst_null, 1) := by decide +kernel
theorem of_d41 : decode prog_29_method_7_code 41 = .ok (.areturn, 1) := by decide +kernel
theorem of_pn : plainName "com/example/indexwright/indexwright/marketdata/ShareAdjustment$Kind" = true := by first | (simp [plainName, overriddenIn]; done) | decide +kernel
theorem of_pd0 : parseMethodDescriptor "()[Lcom/example/indexwright/indexwright/marketdata/ShareAdjustment$Kind;" = some ⟨[], some (.array (.object "com/example/indexwright/indexwright/marketdata/ShareAdjustment$Kind"))⟩ := by decide +kernel
theorem of_pd1 : parseMethodDescriptor "(Ljava/lang/Object;)Z" = some ⟨[(.object "java/lang/Object")], some .boolean⟩ := by decide +kernel
theorem of_ef (m : MethodId) (x0 : Addr) : entryFrame m #[(.ref x0)] 5 = mkF m 0 #[.val (.ref x0), .unset, .unset, .unset, .unset] [] := by first | (simp [entryFrame, mkF, argsToLocals, Value.category]; done) | rfl
set_option maxRecDepth 65536 in
set_option maxHeartbeats 40000000 in
theorem rm_of (l : Launch) (Z : State) (a0 : Array Value) (hw : ∀ d ∈ tables_1, d.before a0 Z = true) (ws : List Jvm.Cond) (a1 : Addr) (bs : List Int32) (wS : Addr) (wD : Addr) (wR : Addr) (wV : Addr) (kV : ClassId) (kS : Addr) (kD : Addr) (kR : Addr) (cz : Int32) (h0 : Heap) (n0 : Nat) (Z0 : n0 ≤ h0.size) (OL : Old Z n0 h0) (B1 : OwnStr Z h0 a1 bs) (SV : Sta Z Z.heap "com/example/indexwright/indexwright/marketdata/ShareAdjustment$Kind" "$VALUES" "[Lcom/example/indexwright/indexwright/marketdata/ShareAdjustment$Kind;" (.ref wV)) (AV : Arv Z Z.heap wV kV (.object "com/example/indexwright/indexwright/marketdata/ShareAdjustment$Kind") 3 [.ref wS, .ref wD, .ref wR] .null) (EV : Exa Z Z.heap wV "[Lcom/example/indexwright/indexwright/marketdata/ShareAdjustment$Kind;") (FV : ∀ c, Z.heap[wV]? = some c → FitC Z c) (FS : Fld Z Z.heap wS "com/example/indexwright/indexwright/marketdata/ShareAdjustment$Kind" "type" "Ljava/lang/String;" (.ref kS)) (FD : Fld Z Z.heap wD "com/example/indexwright/indexwright/marketdata/ShareAdjustment$Kind" "type" "Ljava/lang/String;" (.ref kD)) (FR : Fld Z Z.heap wR "com/example/indexwright/indexwright/marketdata/ShareAdjustment$Kind" "type" "Ljava/lang/String;" (.ref kR)) (BS : OwnStr Z Z.heap kS [115, 112, 108, 105, 116]) (BD : OwnStr Z Z.heap kD [115, 116, 111, 99, 107, 45, 100, 105, 115, 116, 114, 105, 98, 117, 116, 105, 111, 110]) (BR : OwnStr Z Z.heap kR [114, 105, 103, 104, 116, 115, 45, 105, 115, 115, 117, 101]) (SC : Sta Z Z.heap "java/lang/String" "COMPACT_STRINGS" "Z" (.int cz)) (hcz : ¬ cz = 0) :
    MetFree l (⟨"com/example/indexwright/indexwright/marketdata/ShareAdjustment$Kind", "of", "(Ljava/lang/String;)Lcom/example/indexwright/indexwright/marketdata/ShareAdjustment$Kind;"⟩ : MethodName) (head1 (Jvm.Cond.code (⟨"com/example/indexwright/indexwright/marketdata/ShareAdjustment$Kind", "of", "(Ljava/lang/String;)Lcom/example/indexwright/indexwright/marketdata/ShareAdjustment$Kind;"⟩ : MethodName) prog_29_method_7_code 5 (some (.object "com/example/indexwright/indexwright/marketdata/ShareAdjustment$Kind")) :: ws) ({ frames := 3, cells := 1, slots := 3, locals := 50 } : Room)) (fun a U => a = #[(.ref a1)] ∧ Z.Warmed39 U.vm ∧ U.heap = h0) (fun _ _ _ _ _ => True) (fun _ U o U' => OwnEnd U (fun v h L => v = some (if ([115, 112, 108, 105, 116] : List Int32) = bs then .ref wS else if ([115, 116, 111, 99, 107, 45, 100, 105, 115, 116, 114, 105, 98, 117, 116, 105, 111, 110] : List Int32) = bs then .ref wD else if ([114, 105, 103, 104, 116, 115, 45, 105, 115, 115, 117, 101] : List Int32) = bs then .ref wR else .null) ∧ Fr n0 L ∧ Ext h0 h) ({ frames := 3, cells := 1, slots := 3, locals := 50 } : Room).cells ({ frames := 3, cells := 1, slots := 3, locals := 50 } : Room).slots o U') := by
  refine MetFree.of_bodySF (plainFor_of_name of_pn) hisR ?_
  intro p e s m args below meth c s₁ Bd hml0 hP hK
  obtain ⟨rfl, hZ, hh⟩ := hP
  have hx := Bd.exec
  have hby := Bd.bytes
  have hml : c.maxLocals = 5 := hml0
  have hown : s.vm.findClass "com/example/indexwright/indexwright/marketdata/ShareAdjustment$Kind" = some m.cls := findClass_of_methodNamed Bd.named
  have hnm := (name_of_methodNamed Bd.named Bd.method).1
  have X0 : Stand p l e ({ frames := 3, cells := 1, slots := 3, locals := 50 } : Room) s m #[(.ref a1)] below meth c s₁ [] 0 0 := Stand.of_body Bd
  have e0 : s₁.heap = h0 := by rw [← hh, Bd.state]; rfl
  have N0 := Fr.nil n0
  have KP0 := Keep.refl h0 []
  refine own_go (Q := (OwnEnd s (fun v h L => v = some (if ([115, 112, 108, 105, 116] : List Int32) = bs then .ref wS else if ([115, 116, 111, 99, 107, 45, 100, 105, 115, 116, 114, 105, 98, 117, 116, 105, 111, 110] : List Int32) = bs then .ref wD else if ([114, 105, 103, 104, 116, 115, 45, 105, 115, 115, 117, 101] : List Int32) = bs then .ref wR else .null) ∧ Fr n0 L ∧ Ext h0 h) ({ frames := 3, cells := 1, slots := 3, locals := 50 } : Room).cells ({ frames := 3, cells := 1, slots := 3, locals := 50 } : Room).slots)) ?_
  refine own_back (fun t k => castTop (of_ef m a1) k) ?_
  show OwnGo p e below (s₁.setTop (mkF m 0 #[.val (.ref a1), .unset, .unset, .unset, .unset] [])) _
  obtain ⟨_, _, ⟨T192, L192, k192, n192⟩, -, X192, ⟨Lc192, hQ192, l192, y192, z192⟩, st192⟩ := Jvm.LawKit.callS X0 hx (y := (⟨"com/example/indexwright/indexwright/marketdata/ShareAdjustment$Kind", "values", "()[Lcom/example/indexwright/indexwright/marketdata/ShareAdjustment$Kind;"⟩ : MethodName)) hown (mvT hZ (hw _ (List.mem_of_getElem? (i := 39) rfl))) (mvT hZ (hw _ (List.mem_of_getElem? (i := 40) rfl))) (mvT hZ (hw _ (List.mem_of_getElem? (i := 37) rfl))) (mvT hZ (hw _ (List.mem_of_getElem? (i := 41) rfl))) (by decide) (own_backN (W := 0) (rm_val l Z a0 hw [] wS wD wR wV kV kS kD kR cz h0 n0 Z0 OL SV AV EV FV FS FD FR BS BD BR SC hcz) hZ (hw _ (List.mem_of_getElem? (i := 41) rfl)) (hw _ (List.mem_of_getElem? (i := 37) rfl)) (by decide) (by decide)) (g := (mkF m 0 #[.val (.ref a1), .unset, .unset, .unset, .unset] [])) rfl (by rw [hml]; rfl) (argsL := []) (rest := []) (lenOf of_pd0 rfl) rfl (by show 2 * 0 + _ ≤ _; exact Nat.le_of_eq rfl) (hb hby of_d0) (fun _ _ => ⟨rfl, e0, Nat.le_of_ble_eq_true rfl, Nat.le_of_ble_eq_true rfl⟩)
  dsimp only [Pt.U, Pt.locs, Pt.cells, Pt.slots] at X192 l192 y192 z192 st192 hQ192
  subst l192 y192 z192
  obtain ⟨ab192, rfl, N192q, E192, V192, s192⟩ := hQ192
  refine own_back st192 ?_
  have N192 := Fr.app N0 N192q
  have O193 := OL.ext E192
  have KP194 := KP0.ext E192
  have Zs195 := Nat.le_trans Z0 E192.1
  have ge196 := Nat.le_trans Z0 s192
  have sz197 := Nat.le_trans KP0.1 s192
  show OwnGo p e below (T192.setTop (mkF m 3 #[.val (.ref a1), .unset, .unset, .unset, .unset] [(.ref ab192)])) _
  refine own_back (fun t k => XS.astoreN X192.here hx rfl (hb hby of_d3) rfl rfl (l' := #[.val (.ref a1), .val (.ref ab192), .unset, .unset, .unset]) rfl k) ?_
  show OwnGo p e below (T192.setTop (mkF m 4 #[.val (.ref a1), .val (.ref ab192), .unset, .unset, .unset] [])) _
  refine own_back (fun t k => XS.aloadN X192.here hx rfl (hb hby of_d4) rfl rfl k) ?_
  show OwnGo p e below (T192.setTop (mkF m 5 #[.val (.ref a1), .val (.ref ab192), .unset, .unset, .unset] [(.ref ab192)])) _
  obtain ⟨c198, A198, q198, S198, M198, H198, U198⟩ := id V192
  refine own_back (fun t k => X192.arraylength hx (own_hat rfl A198.1) (State.isArrayOf_alike hZ.alike A198.2.1) (g := (mkF m 5 #[.val (.ref a1), .val (.ref ab192), .unset, .unset, .unset] [(.ref ab192)])) rfl rfl (hb hby of_d5) t k) ?_
  rw [len_of S198 M198]
  show OwnGo p e below (T192.setTop (mkF m 6 #[.val (.ref a1), .val (.ref ab192), .unset, .unset, .unset] [(.int (3 : Int32))])) _
  refine own_back (fun t k => XS.istoreN X192.here hx rfl (hb hby of_d6) rfl (l' := #[.val (.ref a1), .val (.ref ab192), .val (.int (3 : Int32)), .unset, .unset]) rfl k) ?_
  show OwnGo p e below (T192.setTop (mkF m 7 #[.val (.ref a1), .val (.ref ab192), .val (.int (3 : Int32)), .unset, .unset] [])) _
  refine own_back (fun t k => XS.iconst X192.here hx rfl (hb hby of_d7) k) ?_
  show OwnGo p e below (T192.setTop (mkF m 8 #[.val (.ref a1), .val (.ref ab192), .val (.int (3 : Int32)), .unset, .unset] [(.int (0 : Int32))])) _
  refine own_back (fun t k => XS.istoreN X192.here hx rfl (hb hby of_d8) rfl (l' := #[.val (.ref a1), .val (.ref ab192), .val (.int (3 : Int32)), .val (.int (0 : Int32)), .unset]) rfl k) ?_
  show OwnGo p e below (T192.setTop (mkF m 9 #[.val (.ref a1), .val (.ref ab192), .val (.int (3 : Int32)), .val (.int (0 : Int32)), .unset] [])) _
  refine own_back (fun t k => XS.iloadN X192.here hx rfl (hb hby of_d9) rfl k) ?_
  show OwnGo p e below (T192.setTop (mkF m 10 #[.val (.ref a1), .val (.ref ab192), .val (.int (3 : Int32)), .val (.int (0 : Int32)), .unset] [(.int (0 : Int32))])) _
  refine own_back (fun t k => XS.iloadN X192.here hx rfl (hb hby of_d10) rfl k) ?_
  show OwnGo p e below (T192.setTop (mkF m 11 #[.val (.ref a1), .val (.ref ab192), .val (.int (3 : Int32)), .val (.int (0 : Int32)), .unset] [(.int (3 : Int32)), (.int (0 : Int32))])) _
  refine own_back (fun t k => XS.icmpNo X192.here hx rfl (hb hby of_d11) rfl (Jvm.Free.XT.ii_ge_f (by decide)) k) ?_
  show OwnGo p e below (T192.setTop (mkF m 14 #[.val (.ref a1), .val (.ref ab192), .val (.int (3 : Int32)), .val (.int (0 : Int32)), .unset] [])) _
  refine own_back (fun t k => XS.aloadN X192.here hx rfl (hb hby of_d14) rfl rfl k) ?_
  show OwnGo p e below (T192.setTop (mkF m 15 #[.val (.ref a1), .val (.ref ab192), .val (.int (3 : Int32)), .val (.int (0 : Int32)), .unset] [(.ref ab192)])) _
  refine own_back (fun t k => XS.iloadN X192.here hx rfl (hb hby of_d15) rfl k) ?_
  show OwnGo p e below (T192.setTop (mkF m 16 #[.val (.ref a1), .val (.ref ab192), .val (.int (3 : Int32)), .val (.int (0 : Int32)), .unset] [(.int (0 : Int32)), (.ref ab192)])) _
  obtain ⟨c199, A199, q199, S199, M199, H199, U199⟩ := id V192
  have ib200 : ¬ ((0 : Int32) < 0 ∨ c199.slots.size ≤ ((0 : Int32)).toNatClampNeg) := (inb_of S199 ⟨by decide, by decide⟩)
  refine own_back (fun t k => X192.aaload hx (j := (0 : Int32)) (v := (.ref wS)) (own_hat rfl A199.1) (State.isArrayOf_alike hZ.alike A199.2.1) rfl A199.2.2 ib200 (H199.at ib200 rfl) (g := (mkF m 16 #[.val (.ref a1), .val (.ref ab192), .val (.int (3 : Int32)), .val (.int (0 : Int32)), .unset] [(.int (0 : Int32)), (.ref ab192)])) rfl rfl (hb hby of_d16) t k) ?_
  show OwnGo p e below (T192.setTop (mkF m 17 #[.val (.ref a1), .val (.ref ab192), .val (.int (3 : Int32)), .val (.int (0 : Int32)), .unset] [(.ref wS)])) _
  refine own_back (fun t k => XS.astore X192.here hx rfl (hb hby of_d17) rfl rfl (l' := #[.val (.ref a1), .val (.ref ab192), .val (.int (3 : Int32)), .val (.int (0 : Int32)), .val (.ref wS)]) rfl k) ?_
  show OwnGo p e below (T192.setTop (mkF m 19 #[.val (.ref a1), .val (.ref ab192), .val (.int (3 : Int32)), .val (.int (0 : Int32)), .val (.ref wS)] [])) _
  refine own_back (fun t k => XS.aload X192.here hx rfl (hb hby of_d19) rfl rfl k) ?_
  show OwnGo p e below (T192.setTop (mkF m 21 #[.val (.ref a1), .val (.ref ab192), .val (.int (3 : Int32)), .val (.int (0 : Int32)), .val (.ref wS)] [(.ref wS)])) _
  obtain ⟨T201, X201, e201, st201⟩ := getF X192 hx hZ hown (host := "") (Or.inl (hw _ (List.mem_of_getElem? (i := 57) rfl))) Via.refl rfl (FS.ext O193.2) (g := (mkF m 21 #[.val (.ref a1), .val (.ref ab192), .val (.int (3 : Int32)), .val (.int (0 : Int32)), .val (.ref wS)] [(.ref wS)])) rfl rfl (hb hby of_d21)
  refine own_back st201 ?_
  show OwnGo p e below (T201.setTop (mkF m 24 #[.val (.ref a1), .val (.ref ab192), .val (.int (3 : Int32)), .val (.int (0 : Int32)), .val (.ref wS)] [(.ref kS)])) _
  refine own_back (fun t k => XS.aloadN X201.here hx rfl (hb hby of_d24) rfl rfl k) ?_
  show OwnGo p e below (T201.setTop (mkF m 25 #[.val (.ref a1), .val (.ref ab192), .val (.int (3 : Int32)), .val (.int (0 : Int32)), .val (.ref wS)] [(.ref a1), (.ref kS)])) _
  by_cases hS : ([115, 112, 108, 105, 116] : List Int32) = bs
  · obtain ⟨cq202, kq202, q202a, q202b, q202c⟩ := isOf hZ e201 (BS.ext O193.2).exa
    obtain ⟨_, _, ⟨T202, L202, k202, n202⟩, -, X202, ⟨Lc202, hQ202, l202, y202, z202⟩, st202⟩ := X201.virtualBack hx (y := (⟨"java/lang/String", "equals", "(Ljava/lang/Object;)Z"⟩ : MethodName)) (z := (⟨"java/lang/String", "equals", "(Ljava/lang/Object;)Z"⟩ : MethodName)) hown (mvT hZ (hw _ (List.mem_of_getElem? (i := 59) rfl))) (mvT hZ (hw _ (List.mem_of_getElem? (i := 60) rfl))) (notFace_of_selects (args := #[]) (mvT hZ (hw _ (List.mem_of_getElem? (i := 62) rfl)))) (mvT hZ (hw _ (List.mem_of_getElem? (i := 62) rfl))) (mvT hZ (hw _ (List.mem_of_getElem? (i := 61) rfl))) (by decide) (own_backN (W := 0) (rm_seq l Z a0 hw [] kS a1 [115, 112, 108, 105, 116] bs cz T192.heap n0 Zs195 O193 (BS.ext O193.2) (B1.ext (own_ext KP194)) SC hcz) hZ (hw _ (List.mem_of_getElem? (i := 63) rfl)) (hw _ (List.mem_of_getElem? (i := 8) rfl)) (by decide) (by decide)) q202a q202c (g := (mkF m 25 #[.val (.ref a1), .val (.ref ab192), .val (.int (3 : Int32)), .val (.int (0 : Int32)), .val (.ref wS)] [(.ref a1), (.ref kS)])) rfl (by rw [hml]; rfl) (Steps.refl _) (argsL := [(.ref a1)]) (rest := []) (lenOf of_pd1 rfl) rfl (by show 2 * 0 + _ ≤ _; exact Nat.le_of_eq rfl) (hb hby of_d25) (fun _ _ => ⟨rfl, e201, Nat.le_of_ble_eq_true rfl, Nat.le_of_ble_eq_true rfl⟩)
    dsimp only [Pt.U, Pt.locs, Pt.cells, Pt.slots] at X202 l202 y202 z202 st202 hQ202
    subst l202 y202 z202
    rw [if_pos hS] at hQ202
    obtain ⟨rfl, N202q, hh202⟩ := hQ202
    refine own_seq st202 ?_
    have N202 := Fr.app N192 N202q
    show OwnGo p e below (T202.setTop (mkF m 28 #[.val (.ref a1), .val (.ref ab192), .val (.int (3 : Int32)), .val (.int (0 : Int32)), .val (.ref wS)] [(.int (1 : Int32))])) _
    refine own_back (fun t k => XS.ifNo X202.here hx rfl (hb hby of_d28) rfl (Jvm.Free.XT.i0_eq_f (by decide)) k) ?_
    show OwnGo p e below (T202.setTop (mkF m 31 #[.val (.ref a1), .val (.ref ab192), .val (.int (3 : Int32)), .val (.int (0 : Int32)), .val (.ref wS)] [])) _
    refine own_back (fun t k => XS.aload X202.here hx rfl (hb hby of_d31) rfl rfl k) ?_
    show OwnGo p e below (T202.setTop (mkF m 33 #[.val (.ref a1), .val (.ref ab192), .val (.int (3 : Int32)), .val (.int (0 : Int32)), .val (.ref wS)] [(.ref wS)])) _
    refine own_retA X202 hx Bd.notSynchronized Bd.returns rfl rfl (hb hby of_d33) hh202 (Nat.le_of_ble_eq_true rfl) (Nat.le_of_ble_eq_true rfl) ?_
    exact ⟨by rw [if_pos hS], N202, own_ext KP194⟩
  · obtain ⟨cq203, kq203, q203a, q203b, q203c⟩ := isOf hZ e201 (BS.ext O193.2).exa
    obtain ⟨_, _, ⟨T203, L203, k203, n203⟩, -, X203, ⟨Lc203, hQ203, l203, y203, z203⟩, st203⟩ := X201.virtualBack hx (y := (⟨"java/lang/String", "equals", "(Ljava/lang/Object;)Z"⟩ : MethodName)) (z := (⟨"java/lang/String", "equals", "(Ljava/lang/Object;)Z"⟩ : MethodName)) hown (mvT hZ (hw _ (List.mem_of_getElem? (i := 59) rfl))) (mvT hZ (hw _ (List.mem_of_getElem? (i := 60) rfl))) (notFace_of_selects (args := #[]) (mvT hZ (hw _ (List.mem_of_getElem? (i := 62) rfl)))) (mvT hZ (hw _ (List.mem_of_getElem? (i := 62) rfl))) (mvT hZ (hw _ (List.mem_of_getElem? (i := 61) rfl))) (by decide) (own_backN (W := 0) (rm_seq l Z a0 hw [] kS a1 [115, 112, 108, 105, 116] bs cz T192.heap n0 Zs195 O193 (BS.ext O193.2) (B1.ext (own_ext KP194)) SC hcz) hZ (hw _ (List.mem_of_getElem? (i := 63) rfl)) (hw _ (List.mem_of_getElem? (i := 8) rfl)) (by decide) (by decide)) q203a q203c (g := (mkF m 25 #[.val (.ref a1), .val (.ref ab192), .val (.int (3 : Int32)), .val (.int (0 : Int32)), .val (.ref wS)] [(.ref a1), (.ref kS)])) rfl (by rw [hml]; rfl) (Steps.refl _) (argsL := [(.ref a1)]) (rest := []) (lenOf of_pd1 rfl) rfl (by show 2 * 0 + _ ≤ _; exact Nat.le_of_eq rfl) (hb hby of_d25) (fun _ _ => ⟨rfl, e201, Nat.le_of_ble_eq_true rfl, Nat.le_of_ble_eq_true rfl⟩)
    dsimp only [Pt.U, Pt.locs, Pt.cells, Pt.slots] at X203 l203 y203 z203 st203 hQ203
    subst l203 y203 z203
    rw [if_neg hS] at hQ203
    obtain ⟨rfl, N203q, hh203⟩ := hQ203
    refine own_seq st203 ?_
    have N203 := Fr.app N192 N203q
    show OwnGo p e below (T203.setTop (mkF m 28 #[.val (.ref a1), .val (.ref ab192), .val (.int (3 : Int32)), .val (.int (0 : Int32)), .val (.ref wS)] [(.int (0 : Int32))])) _
    refine own_back (fun t k => XS.ifYes X203.here hx rfl (pc0 := 28) (pc' := 34) rfl (hb hby of_d28) rfl (Jvm.Free.XT.i0_eq_t (by decide)) (by decide) (by decide) k) ?_
    show OwnGo p e below (T203.setTop (mkF m 34 #[.val (.ref a1), .val (.ref ab192), .val (.int (3 : Int32)), .val (.int (0 : Int32)), .val (.ref wS)] [])) _
    refine own_back (fun t k => XS.iinc X203.here hx rfl (hb hby of_d34) rfl (l' := #[.val (.ref a1), .val (.ref ab192), .val (.int (3 : Int32)), .val (.int (1 : Int32)), .val (.ref wS)]) rfl k) ?_
    show OwnGo p e below (T203.setTop (mkF m 37 #[.val (.ref a1), .val (.ref ab192), .val (.int (3 : Int32)), .val (.int (1 : Int32)), .val (.ref wS)] [])) _
    refine own_back (fun t k => XS.goto X203.here hx rfl (pc0 := 37) (pc' := 9) rfl (hb hby of_d37) (by decide) (by decide) k) ?_
    show OwnGo p e below (T203.setTop (mkF m 9 #[.val (.ref a1), .val (.ref ab192), .val (.int (3 : Int32)), .val (.int (1 : Int32)), .val (.ref wS)] [])) _
    refine own_back (fun t k => XS.iloadN X203.here hx rfl (hb hby of_d9) rfl k) ?_
    show OwnGo p e below (T203.setTop (mkF m 10 #[.val (.ref a1), .val (.ref ab192), .val (.int (3 : Int32)), .val (.int (1 : Int32)), .val (.ref wS)] [(.int (1 : Int32))])) _
    refine own_back (fun t k => XS.iloadN X203.here hx rfl (hb hby of_d10) rfl k) ?_
    show OwnGo p e below (T203.setTop (mkF m 11 #[.val (.ref a1), .val (.ref ab192), .val (.int (3 : Int32)), .val (.int (1 : Int32)), .val (.ref wS)] [(.int (3 : Int32)), (.int (1 : Int32))])) _
    refine own_back (fun t k => XS.icmpNo X203.here hx rfl (hb hby of_d11) rfl (Jvm.Free.XT.ii_ge_f (by decide)) k) ?_
    show OwnGo p e below (T203.setTop (mkF m 14 #[.val (.ref a1), .val (.ref ab192), .val (.int (3 : Int32)), .val (.int (1 : Int32)), .val (.ref wS)] [])) _
    refine own_back (fun t k => XS.aloadN X203.here hx rfl (hb hby of_d14) rfl rfl k) ?_
    show OwnGo p e below (T203.setTop (mkF m 15 #[.val (.ref a1), .val (.ref ab192), .val (.int (3 : Int32)), .val (.int (1 : Int32)), .val (.ref wS)] [(.ref ab192)])) _
    refine own_back (fun t k => XS.iloadN X203.here hx rfl (hb hby of_d15) rfl k) ?_
    show OwnGo p e below (T203.setTop (mkF m 16 #[.val (.ref a1), .val (.ref ab192), .val (.int (3 : Int32)), .val (.int (1 : Int32)), .val (.ref wS)] [(.int (1 : Int32)), (.ref ab192)])) _
    obtain ⟨c204, A204, q204, S204, M204, H204, U204⟩ := id V192
    have ib205 : ¬ ((1 : Int32) < 0 ∨ c204.slots.size ≤ ((1 : Int32)).toNatClampNeg) := (inb_of S204 ⟨by decide, by decide⟩)
    refine own_back (fun t k => X203.aaload hx (j := (1 : Int32)) (v := (.ref wD)) (own_hat hh203 A204.1) (State.isArrayOf_alike hZ.alike A204.2.1) rfl A204.2.2 ib205 (H204.at ib205 rfl) (g := (mkF m 16 #[.val (.ref a1), .val (.ref ab192), .val (.int (3 : Int32)), .val (.int (1 : Int32)), .val (.ref wS)] [(.int (1 : Int32)), (.ref ab192)])) rfl rfl (hb hby of_d16) t k) ?_
    show OwnGo p e below (T203.setTop (mkF m 17 #[.val (.ref a1), .val (.ref ab192), .val (.int (3 : Int32)), .val (.int (1 : Int32)), .val (.ref wS)] [(.ref wD)])) _
    refine own_back (fun t k => XS.astore X203.here hx rfl (hb hby of_d17) rfl rfl (l' := #[.val (.ref a1), .val (.ref ab192), .val (.int (3 : Int32)), .val (.int (1 : Int32)), .val (.ref wD)]) rfl k) ?_
    show OwnGo p e below (T203.setTop (mkF m 19 #[.val (.ref a1), .val (.ref ab192), .val (.int (3 : Int32)), .val (.int (1 : Int32)), .val (.ref wD)] [])) _
    refine own_back (fun t k => XS.aload X203.here hx rfl (hb hby of_d19) rfl rfl k) ?_
    show OwnGo p e below (T203.setTop (mkF m 21 #[.val (.ref a1), .val (.ref ab192), .val (.int (3 : Int32)), .val (.int (1 : Int32)), .val (.ref wD)] [(.ref wD)])) _
    obtain ⟨T206, X206, e206, st206⟩ := getF X203 hx hZ hown (host := "") (Or.inl (hw _ (List.mem_of_getElem? (i := 57) rfl))) Via.refl hh203 (FD.ext O193.2) (g := (mkF m 21 #[.val (.ref a1), .val (.ref ab192), .val (.int (3 : Int32)), .val (.int (1 : Int32)), .val (.ref wD)] [(.ref wD)])) rfl rfl (hb hby of_d21)
    refine own_back st206 ?_
    show OwnGo p e below (T206.setTop (mkF m 24 #[.val (.ref a1), .val (.ref ab192), .val (.int (3 : Int32)), .val (.int (1 : Int32)), .val (.ref wD)] [(.ref kD)])) _
    refine own_back (fun t k => XS.aloadN X206.here hx rfl (hb hby of_d24) rfl rfl k) ?_
    show OwnGo p e below (T206.setTop (mkF m 25 #[.val (.ref a1), .val (.ref ab192), .val (.int (3 : Int32)), .val (.int (1 : Int32)), .val (.ref wD)] [(.ref a1), (.ref kD)])) _
    by_cases hD : ([115, 116, 111, 99, 107, 45, 100, 105, 115, 116, 114, 105, 98, 117, 116, 105, 111, 110] : List Int32) = bs
    · obtain ⟨cq207, kq207, q207a, q207b, q207c⟩ := isOf hZ e206 (BD.ext O193.2).exa
      obtain ⟨_, _, ⟨T207, L207, k207, n207⟩, -, X207, ⟨Lc207, hQ207, l207, y207, z207⟩, st207⟩ := X206.virtualBack hx (y := (⟨"java/lang/String", "equals", "(Ljava/lang/Object;)Z"⟩ : MethodName)) (z := (⟨"java/lang/String", "equals", "(Ljava/lang/Object;)Z"⟩ : MethodName)) hown (mvT hZ (hw _ (List.mem_of_getElem? (i := 59) rfl))) (mvT hZ (hw _ (List.mem_of_getElem? (i := 60) rfl))) (notFace_of_selects (args := #[]) (mvT hZ (hw _ (List.mem_of_getElem? (i := 62) rfl)))) (mvT hZ (hw _ (List.mem_of_getElem? (i := 62) rfl))) (mvT hZ (hw _ (List.mem_of_getElem? (i := 61) rfl))) (by decide) (own_backN (W := 0) (rm_seq l Z a0 hw [] kD a1 [115, 116, 111, 99, 107, 45, 100, 105, 115, 116, 114, 105, 98, 117, 116, 105, 111, 110] bs cz T192.heap n0 Zs195 O193 (BD.ext O193.2) (B1.ext (own_ext KP194)) SC hcz) hZ (hw _ (List.mem_of_getElem? (i := 63) rfl)) (hw _ (List.mem_of_getElem? (i := 8) rfl)) (by decide) (by decide)) q207a q207c (g := (mkF m 25 #[.val (.ref a1), .val (.ref ab192), .val (.int (3 : Int32)), .val (.int (1 : Int32)), .val (.ref wD)] [(.ref a1), (.ref kD)])) rfl (by rw [hml]; rfl) (Steps.refl _) (argsL := [(.ref a1)]) (rest := []) (lenOf of_pd1 rfl) rfl (by show 2 * 0 + _ ≤ _; exact Nat.le_of_eq rfl) (hb hby of_d25) (fun _ _ => ⟨rfl, e206, Nat.le_of_ble_eq_true rfl, Nat.le_of_ble_eq_true rfl⟩)
      dsimp only [Pt.U, Pt.locs, Pt.cells, Pt.slots] at X207 l207 y207 z207 st207 hQ207
      subst l207 y207 z207
      rw [if_pos hD] at hQ207
      obtain ⟨rfl, N207q, hh207⟩ := hQ207
      refine own_seq st207 ?_
      have N207 := Fr.app N203 N207q
      show OwnGo p e below (T207.setTop (mkF m 28 #[.val (.ref a1), .val (.ref ab192), .val (.int (3 : Int32)), .val (.int (1 : Int32)), .val (.ref wD)] [(.int (1 : Int32))])) _
      refine own_back (fun t k => XS.ifNo X207.here hx rfl (hb hby of_d28) rfl (Jvm.Free.XT.i0_eq_f (by decide)) k) ?_
      show OwnGo p e below (T207.setTop (mkF m 31 #[.val (.ref a1), .val (.ref ab192), .val (.int (3 : Int32)), .val (.int (1 : Int32)), .val (.ref wD)] [])) _
      refine own_back (fun t k => XS.aload X207.here hx rfl (hb hby of_d31) rfl rfl k) ?_
      show OwnGo p e below (T207.setTop (mkF m 33 #[.val (.ref a1), .val (.ref ab192), .val (.int (3 : Int32)), .val (.int (1 : Int32)), .val (.ref wD)] [(.ref wD)])) _
      refine own_retA X207 hx Bd.notSynchronized Bd.returns rfl rfl (hb hby of_d33) hh207 (Nat.le_of_ble_eq_true rfl) (Nat.le_of_ble_eq_true rfl) ?_
      exact ⟨by rw [if_neg hS, if_pos hD], N207, own_ext KP194⟩
    · obtain ⟨cq208, kq208, q208a, q208b, q208c⟩ := isOf hZ e206 (BD.ext O193.2).exa
      obtain ⟨_, _, ⟨T208, L208, k208, n208⟩, -, X208, ⟨Lc208, hQ208, l208, y208, z208⟩, st208⟩ := X206.virtualBack hx (y := (⟨"java/lang/String", "equals", "(Ljava/lang/Object;)Z"⟩ : MethodName)) (z := (⟨"java/lang/String", "equals", "(Ljava/lang/Object;)Z"⟩ : MethodName)) hown (mvT hZ (hw _ (List.mem_of_getElem? (i := 59) rfl))) (mvT hZ (hw _ (List.mem_of_getElem? (i := 60) rfl))) (notFace_of_selects (args := #[]) (mvT hZ (hw _ (List.mem_of_getElem? (i := 62) rfl)))) (mvT hZ (hw _ (List.mem_of_getElem? (i := 62) rfl))) (mvT hZ (hw _ (List.mem_of_getElem? (i := 61) rfl))) (by decide) (own_backN (W := 0) (rm_seq l Z a0 hw [] kD a1 [115, 116, 111, 99, 107, 45, 100, 105, 115, 116, 114, 105, 98, 117, 116, 105, 111, 110] bs cz T192.heap n0 Zs195 O193 (BD.ext O193.2) (B1.ext (own_ext KP194)) SC hcz) hZ (hw _ (List.mem_of_getElem? (i := 63) rfl)) (hw _ (List.mem_of_getElem? (i := 8) rfl)) (by decide) (by decide)) q208a q208c (g := (mkF m 25 #[.val (.ref a1), .val (.ref ab192), .val (.int (3 : Int32)), .val (.int (1 : Int32)), .val (.ref wD)] [(.ref a1), (.ref kD)])) rfl (by rw [hml]; rfl) (Steps.refl _) (argsL := [(.ref a1)]) (rest := []) (lenOf of_pd1 rfl) rfl (by show 2 * 0 + _ ≤ _; exact Nat.le_of_eq rfl) (hb hby of_d25) (fun _ _ => ⟨rfl, e206, Nat.le_of_ble_eq_true rfl, Nat.le_of_ble_eq_true rfl⟩)
      dsimp only [Pt.U, Pt.locs, Pt.cells, Pt.slots] at X208 l208 y208 z208 st208 hQ208
      subst l208 y208 z208
      rw [if_neg hD] at hQ208
      obtain ⟨rfl, N208q, hh208⟩ := hQ208
      refine own_seq st208 ?_
      have N208 := Fr.app N203 N208q
      show OwnGo p e below (T208.setTop (mkF m 28 #[.val (.ref a1), .val (.ref ab192), .val (.int (3 : Int32)), .val (.int (1 : Int32)), .val (.ref wD)] [(.int (0 : Int32))])) _
      refine own_back (fun t k => XS.ifYes X208.here hx rfl (pc0 := 28) (pc' := 34) rfl (hb hby of_d28) rfl (Jvm.Free.XT.i0_eq_t (by decide)) (by decide) (by decide) k) ?_
      show OwnGo p e below (T208.setTop (mkF m 34 #[.val (.ref a1), .val (.ref ab192), .val (.int (3 : Int32)), .val (.int (1 : Int32)), .val (.ref wD)] [])) _
      refine own_back (fun t k => XS.iinc X208.here hx rfl (hb hby of_d34) rfl (l' := #[.val (.ref a1), .val (.ref ab192), .val (.int (3 : Int32)), .val (.int (2 : Int32)), .val (.ref wD)]) rfl k) ?_
      show OwnGo p e below (T208.setTop (mkF m 37 #[.val (.ref a1), .val (.ref ab192), .val (.int (3 : Int32)), .val (.int (2 : Int32)), .val (.ref wD)] [])) _
      refine own_back (fun t k => XS.goto X208.here hx rfl (pc0 := 37) (pc' := 9) rfl (hb hby of_d37) (by decide) (by decide) k) ?_
      show OwnGo p e below (T208.setTop (mkF m 9 #[.val (.ref a1), .val (.ref ab192), .val (.int (3 : Int32)), .val (.int (2 : Int32)), .val (.ref wD)] [])) _
      refine own_back (fun t k => XS.iloadN X208.here hx rfl (hb hby of_d9) rfl k) ?_
      show OwnGo p e below (T208.setTop (mkF m 10 #[.val (.ref a1), .val (.ref ab192), .val (.int (3 : Int32)), .val (.int (2 : Int32)), .val (.ref wD)] [(.int (2 : Int32))])) _
      refine own_back (fun t k => XS.iloadN X208.here hx rfl (hb hby of_d10) rfl k) ?_
      show OwnGo p e below (T208.setTop (mkF m 11 #[.val (.ref a1), .val (.ref ab192), .val (.int (3 : Int32)), .val (.int (2 : Int32)), .val (.ref wD)] [(.int (3 : Int32)), (.int (2 : Int32))])) _
      refine own_back (fun t k => XS.icmpNo X208.here hx rfl (hb hby of_d11) rfl (Jvm.Free.XT.ii_ge_f (by decide)) k) ?_
      show OwnGo p e below (T208.setTop (mkF m 14 #[.val (.ref a1), .val (.ref ab192), .val (.int (3 : Int32)), .val (.int (2 : Int32)), .val (.ref wD)] [])) _
      refine own_back (fun t k => XS.aloadN X208.here hx rfl (hb hby of_d14) rfl rfl k) ?_
      show OwnGo p e below (T208.setTop (mkF m 15 #[.val (.ref a1), .val (.ref ab192), .val (.int (3 : Int32)), .val (.int (2 : Int32)), .val (.ref wD)] [(.ref ab192)])) _
      refine own_back (fun t k => XS.iloadN X208.here hx rfl (hb hby of_d15) rfl k) ?_
      show OwnGo p e below (T208.setTop (mkF m 16 #[.val (.ref a1), .val (.ref ab192), .val (.int (3 : Int32)), .val (.int (2 : Int32)), .val (.ref wD)] [(.int (2 : Int32)), (.ref ab192)])) _
      obtain ⟨c209, A209, q209, S209, M209, H209, U209⟩ := id V192
      have ib210 : ¬ ((2 : Int32) < 0 ∨ c209.slots.size ≤ ((2 : Int32)).toNatClampNeg) := (inb_of S209 ⟨by decide, by decide⟩)
      refine own_back (fun t k => X208.aaload hx (j := (2 : Int32)) (v := (.ref wR)) (own_hat hh208 A209.1) (State.isArrayOf_alike hZ.alike A209.2.1) rfl A209.2.2 ib210 (H209.at ib210 rfl) (g := (mkF m 16 #[.val (.ref a1), .val (.ref ab192), .val (.int (3 : Int32)), .val (.int (2 : Int32)), .val (.ref wD)] [(.int (2 : Int32)), (.ref ab192)])) rfl rfl (hb hby of_d16) t k) ?_
      show OwnGo p e below (T208.setTop (mkF m 17 #[.val (.ref a1), .val (.ref ab192), .val (.int (3 : Int32)), .val (.int (2 : Int32)), .val (.ref wD)] [(.ref wR)])) _
      refine own_back (fun t k => XS.astore X208.here hx rfl (hb hby of_d17) rfl rfl (l' := #[.val (.ref a1), .val (.ref ab192), .val (.int (3 : Int32)), .val (.int (2 : Int32)), .val (.ref wR)]) rfl k) ?_
      show OwnGo p e below (T208.setTop (mkF m 19 #[.val (.ref a1), .val (.ref ab192), .val (.int (3 : Int32)), .val (.int (2 : Int32)), .val (.ref wR)] [])) _
      refine own_back (fun t k => XS.aload X208.here hx rfl (hb hby of_d19) rfl rfl k) ?_
      show OwnGo p e below (T208.setTop (mkF m 21 #[.val (.ref a1), .val (.ref ab192), .val (.int (3 : Int32)), .val (.int (2 : Int32)), .val (.ref wR)] [(.ref wR)])) _
      obtain ⟨T211, X211, e211, st211⟩ := getF X208 hx hZ hown (host := "") (Or.inl (hw _ (List.mem_of_getElem? (i := 57) rfl))) Via.refl hh208 (FR.ext O193.2) (g := (mkF m 21 #[.val (.ref a1), .val (.ref ab192), .val (.int (3 : Int32)), .val (.int (2 : Int32)), .val (.ref wR)] [(.ref wR)])) rfl rfl (hb hby of_d21)
      refine own_back st211 ?_
      show OwnGo p e below (T211.setTop (mkF m 24 #[.val (.ref a1), .val (.ref ab192), .val (.int (3 : Int32)), .val (.int (2 : Int32)), .val (.ref wR)] [(.ref kR)])) _
      refine own_back (fun t k => XS.aloadN X211.here hx rfl (hb hby of_d24) rfl rfl k) ?_
      show OwnGo p e below (T211.setTop (mkF m 25 #[.val (.ref a1), .val (.ref ab192), .val (.int (3 : Int32)), .val (.int (2 : Int32)), .val (.ref wR)] [(.ref a1), (.ref kR)])) _
      by_cases hR : ([114, 105, 103, 104, 116, 115, 45, 105, 115, 115, 117, 101] : List Int32) = bs
      · obtain ⟨cq212, kq212, q212a, q212b, q212c⟩ := isOf hZ e211 (BR.ext O193.2).exa
        obtain ⟨_, _, ⟨T212, L212, k212, n212⟩, -, X212, ⟨Lc212, hQ212, l212, y212, z212⟩, st212⟩ := X211.virtualBack hx (y := (⟨"java/lang/String", "equals", "(Ljava/lang/Object;)Z"⟩ : MethodName)) (z := (⟨"java/lang/String", "equals", "(Ljava/lang/Object;)Z"⟩ : MethodName)) hown (mvT hZ (hw _ (List.mem_of_getElem? (i := 59) rfl))) (mvT hZ (hw _ (List.mem_of_getElem? (i := 60) rfl))) (notFace_of_selects (args := #[]) (mvT hZ (hw _ (List.mem_of_getElem? (i := 62) rfl)))) (mvT hZ (hw _ (List.mem_of_getElem? (i := 62) rfl))) (mvT hZ (hw _ (List.mem_of_getElem? (i := 61) rfl))) (by decide) (own_backN (W := 0) (rm_seq l Z a0 hw [] kR a1 [114, 105, 103, 104, 116, 115, 45, 105, 115, 115, 117, 101] bs cz T192.heap n0 Zs195 O193 (BR.ext O193.2) (B1.ext (own_ext KP194)) SC hcz) hZ (hw _ (List.mem_of_getElem? (i := 63) rfl)) (hw _ (List.mem_of_getElem? (i := 8) rfl)) (by decide) (by decide)) q212a q212c (g := (mkF m 25 #[.val (.ref a1), .val (.ref ab192), .val (.int (3 : Int32)), .val (.int (2 : Int32)), .val (.ref wR)] [(.ref a1), (.ref kR)])) rfl (by rw [hml]; rfl) (Steps.refl _) (argsL := [(.ref a1)]) (rest := []) (lenOf of_pd1 rfl) rfl (by show 2 * 0 + _ ≤ _; exact Nat.le_of_eq rfl) (hb hby of_d25) (fun _ _ => ⟨rfl, e211, Nat.le_of_ble_eq_true rfl, Nat.le_of_ble_eq_true rfl⟩)
        dsimp only [Pt.U, Pt.locs, Pt.cells, Pt.slots] at X212 l212 y212 z212 st212 hQ212
        subst l212 y212 z212
        rw [if_pos hR] at hQ212
        obtain ⟨rfl, N212q, hh212⟩ := hQ212
        refine own_seq st212 ?_
        have N212 := Fr.app N208 N212q
        show OwnGo p e below (T212.setTop (mkF m 28 #[.val (.ref a1), .val (.ref ab192), .val (.int (3 : Int32)), .val (.int (2 : Int32)), .val (.ref wR)] [(.int (1 : Int32))])) _
        refine own_back (fun t k => XS.ifNo X212.here hx rfl (hb hby of_d28) rfl (Jvm.Free.XT.i0_eq_f (by decide)) k) ?_
        show OwnGo p e below (T212.setTop (mkF m 31 #[.val (.ref a1), .val (.ref ab192), .val (.int (3 : Int32)), .val (.int (2 : Int32)), .val (.ref wR)] [])) _
        refine own_back (fun t k => XS.aload X212.here hx rfl (hb hby of_d31) rfl rfl k) ?_
        show OwnGo p e below (T212.setTop (mkF m 33 #[.val (.ref a1), .val (.ref ab192), .val (.int (3 : Int32)), .val (.int (2 : Int32)), .val (.ref wR)] [(.ref wR)])) _
        refine own_retA X212 hx Bd.notSynchronized Bd.returns rfl rfl (hb hby of_d33) hh212 (Nat.le_of_ble_eq_true rfl) (Nat.le_of_ble_eq_true rfl) ?_
        exact ⟨by rw [if_neg hS, if_neg hD, if_pos hR], N212, own_ext KP194⟩
      · obtain ⟨cq213, kq213, q213a, q213b, q213c⟩ := isOf hZ e211 (BR.ext O193.2).exa
        obtain ⟨_, _, ⟨T213, L213, k213, n213⟩, -, X213, ⟨Lc213, hQ213, l213, y213, z213⟩, st213⟩ := X211.virtualBack hx (y := (⟨"java/lang/String", "equals", "(Ljava/lang/Object;)Z"⟩ : MethodName)) (z := (⟨"java/lang/String", "equals", "(Ljava/lang/Object;)Z"⟩ : MethodName)) hown (mvT hZ (hw _ (List.mem_of_getElem? (i := 59) rfl))) (mvT hZ (hw _ (List.mem_of_getElem? (i := 60) rfl))) (notFace_of_selects (args := #[]) (mvT hZ (hw _ (List.mem_of_getElem? (i := 62) rfl)))) (mvT hZ (hw _ (List.mem_of_getElem? (i := 62) rfl))) (mvT hZ (hw _ (List.mem_of_getElem? (i := 61) rfl))) (by decide) (own_backN (W := 0) (rm_seq l Z a0 hw [] kR a1 [114, 105, 103, 104, 116, 115, 45, 105, 115, 115, 117, 101] bs cz T192.heap n0 Zs195 O193 (BR.ext O193.2) (B1.ext (own_ext KP194)) SC hcz) hZ (hw _ (List.mem_of_getElem? (i := 63) rfl)) (hw _ (List.mem_of_getElem? (i := 8) rfl)) (by decide) (by decide)) q213a q213c (g := (mkF m 25 #[.val (.ref a1), .val (.ref ab192), .val (.int (3 : Int32)), .val (.int (2 : Int32)), .val (.ref wR)] [(.ref a1), (.ref kR)])) rfl (by rw [hml]; rfl) (Steps.refl _) (argsL := [(.ref a1)]) (rest := []) (lenOf of_pd1 rfl) rfl (by show 2 * 0 + _ ≤ _; exact Nat.le_of_eq rfl) (hb hby of_d25) (fun _ _ => ⟨rfl, e211, Nat.le_of_ble_eq_true rfl, Nat.le_of_ble_eq_true rfl⟩)
        dsimp only [Pt.U, Pt.locs, Pt.cells, Pt.slots] at X213 l213 y213 z213 st213 hQ213
        subst l213 y213 z213
        rw [if_neg hR] at hQ213
        obtain ⟨rfl, N213q, hh213⟩ := hQ213
        refine own_seq st213 ?_
        have N213 := Fr.app N208 N213q
        show OwnGo p e below (T213.setTop (mkF m 28 #[.val (.ref a1), .val (.ref ab192), .val (.int (3 : Int32)), .val (.int (2 : Int32)), .val (.ref wR)] [(.int (0 : Int32))])) _
        refine own_back (fun t k => XS.ifYes X213.here hx rfl (pc0 := 28) (pc' := 34) rfl (hb hby of_d28) rfl (Jvm.Free.XT.i0_eq_t (by decide)) (by decide) (by decide) k) ?_
        show OwnGo p e below (T213.setTop (mkF m 34 #[.val (.ref a1), .val (.ref ab192), .val (.int (3 : Int32)), .val (.int (2 : Int32)), .val (.ref wR)] [])) _
        refine own_back (fun t k => XS.iinc X213.here hx rfl (hb hby of_d34) rfl (l' := #[.val (.ref a1), .val (.ref ab192), .val (.int (3 : Int32)), .val (.int (3 : Int32)), .val (.ref wR)]) rfl k) ?_
        show OwnGo p e below (T213.setTop (mkF m 37 #[.val (.ref a1), .val (.ref ab192), .val (.int (3 : Int32)), .val (.int (3 : Int32)), .val (.ref wR)] [])) _
        refine own_back (fun t k => XS.goto X213.here hx rfl (pc0 := 37) (pc' := 9) rfl (hb hby of_d37) (by decide) (by decide) k) ?_
        show OwnGo p e below (T213.setTop (mkF m 9 #[.val (.ref a1), .val (.ref ab192), .val (.int (3 : Int32)), .val (.int (3 : Int32)), .val (.ref wR)] [])) _
        refine own_back (fun t k => XS.iloadN X213.here hx rfl (hb hby of_d9) rfl k) ?_
        show OwnGo p e below (T213.setTop (mkF m 10 #[.val (.ref a1), .val (.ref ab192), .val (.int (3 : Int32)), .val (.int (3 : Int32)), .val (.ref wR)] [(.int (3 : Int32))])) _
        refine own_back (fun t k => XS.iloadN X213.here hx rfl (hb hby of_d10) rfl k) ?_
        show OwnGo p e below (T213.setTop (mkF m 11 #[.val (.ref a1), .val (.ref ab192), .val (.int (3 : Int32)), .val (.int (3 : Int32)), .val (.ref wR)] [(.int (3 : Int32)), (.int (3 : Int32))])) _
        refine own_back (fun t k => XS.icmpYes X213.here hx rfl (pc0 := 11) (pc' := 40) rfl (hb hby of_d11) rfl (Jvm.Free.XT.ii_ge_t (by decide)) (by decide) (by decide) k) ?_
        show OwnGo p e below (T213.setTop (mkF m 40 #[.val (.ref a1), .val (.ref ab192), .val (.int (3 : Int32)), .val (.int (3 : Int32)), .val (.ref wR)] [])) _
        refine own_back (fun t k => XS.aconstNull X213.here hx rfl (hb hby of_d40) k) ?_
        show OwnGo p e below (T213.setTop (mkF m 41 #[.val (.ref a1), .val (.ref ab192), .val (.int (3 : Int32)), .val (.int (3 : Int32)), .val (.ref wR)] [.null])) _
        refine own_retA X213 hx Bd.notSynchronized Bd.returns rfl rfl (hb hby of_d41) hh213 (Nat.le_of_ble_eq_true rfl) (Nat.le_of_ble_eq_true rfl) ?_
        exact ⟨by rw [if_neg hS, if_neg hD, if_neg hR], N213, own_ext KP194⟩
theorem ofn_d0 : decode prog_29_method_7_code 0 = .ok (.invokestatic 45, 3) := by decide +kernel
theorem ofn_d3 : decode prog_29_method_7_code 3 = .ok (.astore_n 1, 1) := by decide +kernel
theorem ofn_d4 : decode prog_29_method_7_code 4 = .ok (.aload_n 1, 1) := by decide +kernel
theorem ofn_d5 : decode prog_29_method_7_code 5 = .ok (.arraylength, 1) := by decide +kernel
theorem ofn_d6 : decode prog_29_method_7_code 6 = .ok (.istore_n 2, 1) := by decide +kernel
theorem ofn_d7 : decode prog_29_method_7_code 7 = .ok (.iconst 0, 1) := by decide +kernel
theorem ofn_d8 : decode prog_29_method_7_code 8 = .ok (.istore_n 3, 1) := by decide +kernel
theorem ofn_d9 : decode prog_29_method_7_code 9 = .ok (.iload_n 3, 1) := by decide +kernel
theorem ofn_d10 : decode prog_29_method_7_code 10 = .ok (.iload_n 2, 1) := by decide +kernel
theorem ofn_d11 : decode prog_29_method_7_code 11 = .ok (.if_icmp .ge 29, 3) := by decide +kernel
theorem ofn_d14 : decode prog_29_method_7_code 14 = .ok (.aload_n 1, 1) := by decide +kernel
theorem ofn_d15 : decode prog_29_method_7_code 15 = .ok (.iload_n 3, 1) := by decide +kernel
theorem ofn_d16 : decode prog_29_method_7_code 16 = .ok (.aaload, 1) := by decide +kernel
theorem ofn_d17 : decode prog_29_method_7_code 17 = .ok (.astore 4, 2) := by decide +kernel
theorem ofn_d19 : decode prog_29_method_7_code 19 = .ok (.aload 4, 2) := by decide +kernel
theorem ofn_d21 : decode prog_29_method_7_code 21 = .ok (.getfield 32, 3) := by decide +kernel
theorem ofn_d24 : decode prog_29_method_7_code 24 = .ok (.aload_n 0, 1) := by decide +kernel
theorem ofn_d25 : decode prog_29_method_7_code 25 = .ok (.invokevirtual 49, 3) := by decide +kernel
theorem ofn_d28 : decode prog_29_method_7_code 28 = .ok (.ifCond .eq 6, 3) := by decide +kernel
theorem ofn_d34 : decode prog_29_method_7_code 34 = .ok (.iinc 3 1, 3) := by decide +kernel
theorem ofn_d37 : decode prog_29_method_7_code 37 = .ok (.goto (-28), 3) := by decide +kernel
theorem ofn_d40 : decode prog_29_method_7_code 40 = .ok (.aconst_null, 1) := by decide +kernel
theorem ofn_d41 : decode prog_29_method_7_code 41 = .ok (.areturn, 1) := by decide +kernel
theorem ofn_pn : plainName "com/example/indexwright/indexwright/marketdata/ShareAdjustment$Kind" = true := by first | (simp [plainName, overriddenIn]; done) | decide +kernel
theorem ofn_pd0 : parseMethodDescriptor "()[Lcom/example/indexwright/indexwright/marketdata/ShareAdjustment$Kind;" = some ⟨[], some (.array (.object "com/example/indexwright/indexwright/marketdata/ShareAdjustment$Kind"))⟩ := by decide +kernel
theorem ofn_pd1 : parseMethodDescriptor "(Ljava/lang/Object;)Z" = some ⟨[(.object "java/lang/Object")], some .boolean⟩ := by decide +kernel
theorem ofn_ef (m : MethodId)  : entryFrame m #[.null] 5 = mkF m 0 #[.val .null, .unset, .unset, .unset, .unset] [] := by first | (simp [entryFrame, mkF, argsToLocals, Value.category]; done) | rfl
set_option maxRecDepth 65536 in
set_option maxHeartbeats 40000000 in
theorem rm_ofn (l : Launch) (Z : State) (a0 : Array Value) (hw : ∀ d ∈ tables_1, d.before a0 Z = true) (ws : List Jvm.Cond) (wS : Addr) (wD : Addr) (wR : Addr) (wV : Addr) (kV : ClassId) (kS : Addr) (kD : Addr) (kR : Addr) (cz : Int32) (h0 : Heap) (n0 : Nat) (Z0 : n0 ≤ h0.size) (OL : Old Z n0 h0) (SV : Sta Z Z.heap "com/example/indexwright/indexwright/marketdata/ShareAdjustment$Kind" "$VALUES" "[Lcom/example/indexwright/indexwright/marketdata/ShareAdjustment$Kind;" (.ref wV)) (AV : Arv Z Z.heap wV kV (.object "com/example/indexwright/indexwright/marketdata/ShareAdjustment$Kind") 3 [.ref wS, .ref wD, .ref wR] .null) (EV : Exa Z Z.heap wV "[Lcom/example/indexwright/indexwright/marketdata/ShareAdjustment$Kind;") (FV : ∀ c, Z.heap[wV]? = some c → FitC Z c) (FS : Fld Z Z.heap wS "com/example/indexwright/indexwright/marketdata/ShareAdjustment$Kind" "type" "Ljava/lang/String;" (.ref kS)) (FD : Fld Z Z.heap wD "com/example/indexwright/indexwright/marketdata/ShareAdjustment$Kind" "type" "Ljava/lang/String;" (.ref kD)) (FR : Fld Z Z.heap wR "com/example/indexwright/indexwright/marketdata/ShareAdjustment$Kind" "type" "Ljava/lang/String;" (.ref kR)) (BS : OwnStr Z Z.heap kS [115, 112, 108, 105, 116]) (BD : OwnStr Z Z.heap kD [115, 116, 111, 99, 107, 45, 100, 105, 115, 116, 114, 105, 98, 117, 116, 105, 111, 110]) (BR : OwnStr Z Z.heap kR [114, 105, 103, 104, 116, 115, 45, 105, 115, 115, 117, 101]) (SC : Sta Z Z.heap "java/lang/String" "COMPACT_STRINGS" "Z" (.int cz)) (hcz : ¬ cz = 0) :
    MetFree l (⟨"com/example/indexwright/indexwright/marketdata/ShareAdjustment$Kind", "of", "(Ljava/lang/String;)Lcom/example/indexwright/indexwright/marketdata/ShareAdjustment$Kind;"⟩ : MethodName) (head1 (Jvm.Cond.code (⟨"com/example/indexwright/indexwright/marketdata/ShareAdjustment$Kind", "of", "(Ljava/lang/String;)Lcom/example/indexwright/indexwright/marketdata/ShareAdjustment$Kind;"⟩ : MethodName) prog_29_method_7_code 5 (some (.object "com/example/indexwright/indexwright/marketdata/ShareAdjustment$Kind")) :: ws) ({ frames := 3, cells := 1, slots := 3, locals := 50 } : Room)) (fun a U => a = #[.null] ∧ Z.Warmed39 U.vm ∧ U.heap = h0) (fun _ _ _ _ _ => True) (fun _ U o U' => OwnEnd U (fun v h L => v = some .null ∧ Fr n0 L ∧ Ext h0 h) ({ frames := 3, cells := 1, slots := 3, locals := 50 } : Room).cells ({ frames := 3, cells := 1, slots := 3, locals := 50 } : Room).slots o U') := by
  refine MetFree.of_bodySF (plainFor_of_name ofn_pn) hisR ?_
  intro p e s m args below meth c s₁ Bd hml0 hP hK
  obtain ⟨rfl, hZ, hh⟩ := hP
  have hx := Bd.exec
  have hby := Bd.bytes
  have hml : c.maxLocals = 5 := hml0
  have hown : s.vm.findClass "com/example/indexwright/indexwright/marketdata/ShareAdjustment$Kind" = some m.cls := findClass_of_methodNamed Bd.named
  have hnm := (name_of_methodNamed Bd.named Bd.method).1
  have X0 : Stand p l e ({ frames := 3, cells := 1, slots := 3, locals := 50 } : Room) s m #[.null] below meth c s₁ [] 0 0 := Stand.of_body Bd
  have e0 : s₁.heap = h0 := by rw [← hh, Bd.state]; rfl
  have N0 := Fr.nil n0
  have KP0 := Keep.refl h0 []
  refine own_go (Q := (OwnEnd s (fun v h L => v = some .null ∧ Fr n0 L ∧ Ext h0 h) ({ frames := 3, cells := 1, slots := 3, locals := 50 } : Room).cells ({ frames := 3, cells := 1, slots := 3, locals := 50 } : Room).slots)) ?_
  refine own_back (fun t k => castTop (ofn_ef m ) k) ?_
  show OwnGo p e below (s₁.setTop (mkF m 0 #[.val .null, .unset, .unset, .unset, .unset] [])) _
  obtain ⟨_, _, ⟨T214, L214, k214, n214⟩, -, X214, ⟨Lc214, hQ214, l214, y214, z214⟩, st214⟩ := Jvm.LawKit.callS X0 hx (y := (⟨"com/example/indexwright/indexwright/marketdata/ShareAdjustment$Kind", "values", "()[Lcom/example/indexwright/indexwright/marketdata/ShareAdjustment$Kind;"⟩ : MethodName)) hown (mvT hZ (hw _ (List.mem_of_getElem? (i := 39) rfl))) (mvT hZ (hw _ (List.mem_of_getElem? (i := 40) rfl))) (mvT hZ (hw _ (List.mem_of_getElem? (i := 37) rfl))) (mvT hZ (hw _ (List.mem_of_getElem? (i := 41) rfl))) (by decide) (own_backN (W := 0) (rm_val l Z a0 hw [] wS wD wR wV kV kS kD kR cz h0 n0 Z0 OL SV AV EV FV FS FD FR BS BD BR SC hcz) hZ (hw _ (List.mem_of_getElem? (i := 41) rfl)) (hw _ (List.mem_of_getElem? (i := 37) rfl)) (by decide) (by decide)) (g := (mkF m 0 #[.val .null, .unset, .unset, .unset, .unset] [])) rfl (by rw [hml]; rfl) (argsL := []) (rest := []) (lenOf ofn_pd0 rfl) rfl (by show 2 * 0 + _ ≤ _; exact Nat.le_of_eq rfl) (hb hby ofn_d0) (fun _ _ => ⟨rfl, e0, Nat.le_of_ble_eq_true rfl, Nat.le_of_ble_eq_true rfl⟩)
  dsimp only [Pt.U, Pt.locs, Pt.cells, Pt.slots] at X214 l214 y214 z214 st214 hQ214
  subst l214 y214 z214
  obtain ⟨ab214, rfl, N214q, E214, V214, s214⟩ := hQ214
  refine own_back st214 ?_
  have N214 := Fr.app N0 N214q
  have O215 := OL.ext E214
  have KP216 := KP0.ext E214
  have Zs217 := Nat.le_trans Z0 E214.1
  have ge218 := Nat.le_trans Z0 s214
  have sz219 := Nat.le_trans KP0.1 s214
  show OwnGo p e below (T214.setTop (mkF m 3 #[.val .null, .unset, .unset, .unset, .unset] [(.ref ab214)])) _
  refine own_back (fun t k => XS.astoreN X214.here hx rfl (hb hby ofn_d3) rfl rfl (l' := #[.val .null, .val (.ref ab214), .unset, .unset, .unset]) rfl k) ?_
  show OwnGo p e below (T214.setTop (mkF m 4 #[.val .null, .val (.ref ab214), .unset, .unset, .unset] [])) _
  refine own_back (fun t k => XS.aloadN X214.here hx rfl (hb hby ofn_d4) rfl rfl k) ?_
  show OwnGo p e below (T214.setTop (mkF m 5 #[.val .null, .val (.ref ab214), .unset, .unset, .unset] [(.ref ab214)])) _
  obtain ⟨c220, A220, q220, S220, M220, H220, U220⟩ := id V214
  refine own_back (fun t k => X214.arraylength hx (own_hat rfl A220.1) (State.isArrayOf_alike hZ.alike A220.2.1) (g := (mkF m 5 #[.val .null, .val (.ref ab214), .unset, .unset, .unset] [(.ref ab214)])) rfl rfl (hb hby ofn_d5) t k) ?_
  rw [len_of S220 M220]
  show OwnGo p e below (T214.setTop (mkF m 6 #[.val .null, .val (.ref ab214), .unset, .unset, .unset] [(.int (3 : Int32))])) _
  refine own_back (fun t k => XS.istoreN X214.here hx rfl (hb hby ofn_d6) rfl (l' := #[.val .null, .val (.ref ab214), .val (.int (3 : Int32)), .unset, .unset]) rfl k) ?_
  show OwnGo p e below (T214.setTop (mkF m 7 #[.val .null, .val (.ref ab214), .val (.int (3 : Int32)), .unset, .unset] [])) _
  refine own_back (fun t k => XS.iconst X214.here hx rfl (hb hby ofn_d7) k) ?_
  show OwnGo p e below (T214.setTop (mkF m 8 #[.val .null, .val (.ref ab214), .val (.int (3 : Int32)), .unset, .unset] [(.int (0 : Int32))])) _
  refine own_back (fun t k => XS.istoreN X214.here hx rfl (hb hby ofn_d8) rfl (l' := #[.val .null, .val (.ref ab214), .val (.int (3 : Int32)), .val (.int (0 : Int32)), .unset]) rfl k) ?_
  show OwnGo p e below (T214.setTop (mkF m 9 #[.val .null, .val (.ref ab214), .val (.int (3 : Int32)), .val (.int (0 : Int32)), .unset] [])) _
  refine own_back (fun t k => XS.iloadN X214.here hx rfl (hb hby ofn_d9) rfl k) ?_
  show OwnGo p e below (T214.setTop (mkF m 10 #[.val .null, .val (.ref ab214), .val (.int (3 : Int32)), .val (.int (0 : Int32)), .unset] [(.int (0 : Int32))])) _
  refine own_back (fun t k => XS.iloadN X214.here hx rfl (hb hby ofn_d10) rfl k) ?_
  show OwnGo p e below (T214.setTop (mkF m 11 #[.val .null, .val (.ref ab214), .val (.int (3 : Int32)), .val (.int (0 : Int32)), .unset] [(.int (3 : Int32)), (.int (0 : Int32))])) _
  refine own_back (fun t k => XS.icmpNo X214.here hx rfl (hb hby ofn_d11) rfl (Jvm.Free.XT.ii_ge_f (by decide)) k) ?_
  show OwnGo p e below (T214.setTop (mkF m 14 #[.val .null, .val (.ref ab214), .val (.int (3 : Int32)), .val (.int (0 : Int32)), .unset] [])) _
  refine own_back (fun t k => XS.aloadN X214.here hx rfl (hb hby ofn_d14) rfl rfl k) ?_
  show OwnGo p e below (T214.setTop (mkF m 15 #[.val .null, .val (.ref ab214), .val (.int (3 : Int32)), .val (.int (0 : Int32)), .unset] [(.ref ab214)])) _
  refine own_back (fun t k => XS.iloadN X214.here hx rfl (hb hby ofn_d15) rfl k) ?_
  show OwnGo p e below (T214.setTop (mkF m 16 #[.val .null, .val (.ref ab214), .val (.int (3 : Int32)), .val (.int (0 : Int32)), .unset] [(.int (0 : Int32)), (.ref ab214)])) _
  obtain ⟨c221, A221, q221, S221, M221, H221, U221⟩ := id V214
  have ib222 : ¬ ((0 : Int32) < 0 ∨ c221.slots.size ≤ ((0 : Int32)).toNatClampNeg) := (inb_of S221 ⟨by decide, by decide⟩)
  refine own_back (fun t k => X214.aaload hx (j := (0 : Int32)) (v := (.ref wS)) (own_hat rfl A221.1) (State.isArrayOf_alike hZ.alike A221.2.1) rfl A221.2.2 ib222 (H221.at ib222 rfl) (g := (mkF m 16 #[.val .null, .val (.ref ab214), .val (.int (3 : Int32)), .val (.int (0 : Int32)), .unset] [(.int (0 : Int32)), (.ref ab214)])) rfl rfl (hb hby ofn_d16) t k) ?_
  show OwnGo p e below (T214.setTop (mkF m 17 #[.val .null, .val (.ref ab214), .val (.int (3 : Int32)), .val (.int (0 : Int32)), .unset] [(.ref wS)])) _
  refine own_back (fun t k => XS.astore X214.here hx rfl (hb hby ofn_d17) rfl rfl (l' := #[.val .null, .val (.ref ab214), .val (.int (3 : Int32)), .val (.int (0 : Int32)), .val (.ref wS)]) rfl k) ?_
  show OwnGo p e below (T214.setTop (mkF m 19 #[.val .null, .val (.ref ab214), .val (.int (3 : Int32)), .val (.int (0 : Int32)), .val (.ref wS)] [])) _
  refine own_back (fun t k => XS.aload X214.here hx rfl (hb hby ofn_d19) rfl rfl k) ?_
  show OwnGo p e below (T214.setTop (mkF m 21 #[.val .null, .val (.ref ab214), .val (.int (3 : Int32)), .val (.int (0 : Int32)), .val (.ref wS)] [(.ref wS)])) _
  obtain ⟨T223, X223, e223, st223⟩ := getF X214 hx hZ hown (host := "") (Or.inl (hw _ (List.mem_of_getElem? (i := 57) rfl))) Via.refl rfl (FS.ext O215.2) (g := (mkF m 21 #[.val .null, .val (.ref ab214), .val (.int (3 : Int32)), .val (.int (0 : Int32)), .val (.ref wS)] [(.ref wS)])) rfl rfl (hb hby ofn_d21)
  refine own_back st223 ?_
  show OwnGo p e below (T223.setTop (mkF m 24 #[.val .null, .val (.ref ab214), .val (.int (3 : Int32)), .val (.int (0 : Int32)), .val (.ref wS)] [(.ref kS)])) _
  refine own_back (fun t k => XS.aloadN X223.here hx rfl (hb hby ofn_d24) rfl rfl k) ?_
  show OwnGo p e below (T223.setTop (mkF m 25 #[.val .null, .val (.ref ab214), .val (.int (3 : Int32)), .val (.int (0 : Int32)), .val (.ref wS)] [.null, (.ref kS)])) _
  obtain ⟨cq224, kq224, q224a, q224b, q224c⟩ := isOf hZ e223 (BS.ext O215.2).exa
  obtain ⟨_, _, ⟨T224, L224, k224, n224⟩, -, X224, ⟨Lc224, hQ224, l224, y224, z224⟩, st224⟩ := X223.virtualBack hx (y := (⟨"java/lang/String", "equals", "(Ljava/lang/Object;)Z"⟩ : MethodName)) (z := (⟨"java/lang/String", "equals", "(Ljava/lang/Object;)Z"⟩ : MethodName)) hown (mvT hZ (hw _ (List.mem_of_getElem? (i := 59) rfl))) (mvT hZ (hw _ (List.mem_of_getElem? (i := 60) rfl))) (notFace_of_selects (args := #[]) (mvT hZ (hw _ (List.mem_of_getElem? (i := 62) rfl)))) (mvT hZ (hw _ (List.mem_of_getElem? (i := 62) rfl))) (mvT hZ (hw _ (List.mem_of_getElem? (i := 61) rfl))) (by decide) (own_backN (W := 0) (rm_seqn l Z a0 hw [] kS T214.heap n0 Zs217) hZ (hw _ (List.mem_of_getElem? (i := 63) rfl)) (hw _ (List.mem_of_getElem? (i := 8) rfl)) (by decide) (by decide)) q224a q224c (g := (mkF m 25 #[.val .null, .val (.ref ab214), .val (.int (3 : Int32)), .val (.int (0 : Int32)), .val (.ref wS)] [.null, (.ref kS)])) rfl (by rw [hml]; rfl) (Steps.refl _) (argsL := [.null]) (rest := []) (lenOf ofn_pd1 rfl) rfl (by show 2 * 0 + _ ≤ _; exact Nat.le_of_eq rfl) (hb hby ofn_d25) (fun _ _ => ⟨rfl, e223, Nat.le_of_ble_eq_true rfl, Nat.le_of_ble_eq_true rfl⟩)
  dsimp only [Pt.U, Pt.locs, Pt.cells, Pt.slots] at X224 l224 y224 z224 st224 hQ224
  subst l224 y224 z224
  obtain ⟨rfl, N224q, hh224⟩ := hQ224
  refine own_seq st224 ?_
  have N224 := Fr.app N214 N224q
  show OwnGo p e below (T224.setTop (mkF m 28 #[.val .null, .val (.ref ab214), .val (.int (3 : Int32)), .val (.int (0 : Int32)), .val (.ref wS)] [(.int (0 : Int32))])) _
  refine own_back (fun t k => XS.ifYes X224.here hx rfl (pc0 := 28) (pc' := 34) rfl (hb hby ofn_d28) rfl (Jvm.Free.XT.i0_eq_t (by decide)) (by decide) (by decide) k) ?_
  show OwnGo p e below (T224.setTop (mkF m 34 #[.val .null, .val (.ref ab214), .val (.int (3 : Int32)), .val (.int (0 : Int32)), .val (.ref wS)] [])) _
  refine own_back (fun t k => XS.iinc X224.here hx rfl (hb hby ofn_d34) rfl (l' := #[.val .null, .val (.ref ab214), .val (.int (3 : Int32)), .val (.int (1 : Int32)), .val (.ref wS)]) rfl k) ?_
  show OwnGo p e below (T224.setTop (mkF m 37 #[.val .null, .val (.ref ab214), .val (.int (3 : Int32)), .val (.int (1 : Int32)), .val (.ref wS)] [])) _
  refine own_back (fun t k => XS.goto X224.here hx rfl (pc0 := 37) (pc' := 9) rfl (hb hby ofn_d37) (by decide) (by decide) k) ?_
  show OwnGo p e below (T224.setTop (mkF m 9 #[.val .null, .val (.ref ab214), .val (.int (3 : Int32)), .val (.int (1 : Int32)), .val (.ref wS)] [])) _
  refine own_back (fun t k => XS.iloadN X224.here hx rfl (hb hby ofn_d9) rfl k) ?_
  show OwnGo p e below (T224.setTop (mkF m 10 #[.val .null, .val (.ref ab214), .val (.int (3 : Int32)), .val (.int (1 : Int32)), .val (.ref wS)] [(.int (1 : Int32))])) _
  refine own_back (fun t k => XS.iloadN X224.here hx rfl (hb hby ofn_d10) rfl k) ?_
  show OwnGo p e below (T224.setTop (mkF m 11 #[.val .null, .val (.ref ab214), .val (.int (3 : Int32)), .val (.int (1 : Int32)), .val (.ref wS)] [(.int (3 : Int32)), (.int (1 : Int32))])) _
  refine own_back (fun t k => XS.icmpNo X224.here hx rfl (hb hby ofn_d11) rfl (Jvm.Free.XT.ii_ge_f (by decide)) k) ?_
  show OwnGo p e below (T224.setTop (mkF m 14 #[.val .null, .val (.ref ab214), .val (.int (3 : Int32)), .val (.int (1 : Int32)), .val (.ref wS)] [])) _
  refine own_back (fun t k => XS.aloadN X224.here hx rfl (hb hby ofn_d14) rfl rfl k) ?_
  show OwnGo p e below (T224.setTop (mkF m 15 #[.val .null, .val (.ref ab214), .val (.int (3 : Int32)), .val (.int (1 : Int32)), .val (.ref wS)] [(.ref ab214)])) _
  refine own_back (fun t k => XS.iloadN X224.here hx rfl (hb hby ofn_d15) rfl k) ?_
  show OwnGo p e below (T224.setTop (mkF m 16 #[.val .null, .val (.ref ab214), .val (.int (3 : Int32)), .val (.int (1 : Int32)), .val (.ref wS)] [(.int (1 : Int32)), (.ref ab214)])) _
  obtain ⟨c225, A225, q225, S225, M225, H225, U225⟩ := id V214
  have ib226 : ¬ ((1 : Int32) < 0 ∨ c225.slots.size ≤ ((1 : Int32)).toNatClampNeg) := (inb_of S225 ⟨by decide, by decide⟩)
  refine own_back (fun t k => X224.aaload hx (j := (1 : Int32)) (v := (.ref wD)) (own_hat hh224 A225.1) (State.isArrayOf_alike hZ.alike A225.2.1) rfl A225.2.2 ib226 (H225.at ib226 rfl) (g := (mkF m 16 #[.val .null, .val (.ref ab214), .val (.int (3 : Int32)), .val (.int (1 : Int32)), .val (.ref wS)] [(.int (1 : Int32)), (.ref ab214)])) rfl rfl (hb hby ofn_d16) t k) ?_
  show OwnGo p e below (T224.setTop (mkF m 17 #[.val .null, .val (.ref ab214), .val (.int (3 : Int32)), .val (.int (1 : Int32)), .val (.ref wS)] [(.ref wD)])) _
  refine own_back (fun t k => XS.astore X224.here hx rfl (hb hby ofn_d17) rfl rfl (l' := #[.val .null, .val (.ref ab214), .val (.int (3 : Int32)), .val (.int (1 : Int32)), .val (.ref wD)]) rfl k) ?_
  show OwnGo p e below (T224.setTop (mkF m 19 #[.val .null, .val (.ref ab214), .val (.int (3 : Int32)), .val (.int (1 : Int32)), .val (.ref wD)] [])) _
  refine own_back (fun t k => XS.aload X224.here hx rfl (hb hby ofn_d19) rfl rfl k) ?_
  show OwnGo p e below (T224.setTop (mkF m 21 #[.val .null, .val (.ref ab214), .val (.int (3 : Int32)), .val (.int (1 : Int32)), .val (.ref wD)] [(.ref wD)])) _
  obtain ⟨T227, X227, e227, st227⟩ := getF X224 hx hZ hown (host := "") (Or.inl (hw _ (List.mem_of_getElem? (i := 57) rfl))) Via.refl hh224 (FD.ext O215.2) (g := (mkF m 21 #[.val .null, .val (.ref ab214), .val (.int (3 : Int32)), .val (.int (1 : Int32)), .val (.ref wD)] [(.ref wD)])) rfl rfl (hb hby ofn_d21)
  refine own_back st227 ?_
  show OwnGo p e below (T227.setTop (mkF m 24 #[.val .null, .val (.ref ab214), .val (.int (3 : Int32)), .val (.int (1 : Int32)), .val (.ref wD)] [(.ref kD)])) _
  refine own_back (fun t k => XS.aloadN X227.here hx rfl (hb hby ofn_d24) rfl rfl k) ?_
  show OwnGo p e below (T227.setTop (mkF m 25 #[.val .null, .val (.ref ab214), .val (.int (3 : Int32)), .val (.int (1 : Int32)), .val (.ref wD)] [.null, (.ref kD)])) _
  obtain ⟨cq228, kq228, q228a, q228b, q228c⟩ := isOf hZ e227 (BD.ext O215.2).exa
  obtain ⟨_, _, ⟨T228, L228, k228, n228⟩, -, X228, ⟨Lc228, hQ228, l228, y228, z228⟩, st228⟩ := X227.virtualBack hx (y := (⟨"java/lang/String", "equals", "(Ljava/lang/Object;)Z"⟩ : MethodName)) (z := (⟨"java/lang/String", "equals", "(Ljava/lang/Object;)Z"⟩ : MethodName)) hown (mvT hZ (hw _ (List.mem_of_getElem? (i := 59) rfl))) (mvT hZ (hw _ (List.mem_of_getElem? (i := 60) rfl))) (notFace_of_selects (args := #[]) (mvT hZ (hw _ (List.mem_of_getElem? (i := 62) rfl)))) (mvT hZ (hw _ (List.mem_of_getElem? (i := 62) rfl))) (mvT hZ (hw _ (List.mem_of_getElem? (i := 61) rfl))) (by decide) (own_backN (W := 0) (rm_seqn l Z a0 hw [] kD T214.heap n0 Zs217) hZ (hw _ (List.mem_of_getElem? (i := 63) rfl)) (hw _ (List.mem_of_getElem? (i := 8) rfl)) (by decide) (by decide)) q228a q228c (g := (mkF m 25 #[.val .null, .val (.ref ab214), .val (.int (3 : Int32)), .val (.int (1 : Int32)), .val (.ref wD)] [.null, (.ref kD)])) rfl (by rw [hml]; rfl) (Steps.refl _) (argsL := [.null]) (rest := []) (lenOf ofn_pd1 rfl) rfl (by show 2 * 0 + _ ≤ _; exact Nat.le_of_eq rfl) (hb hby ofn_d25) (fun _ _ => ⟨rfl, e227, Nat.le_of_ble_eq_true rfl, Nat.le_of_ble_eq_true rfl⟩)
  dsimp only [Pt.U, Pt.locs, Pt.cells, Pt.slots] at X228 l228 y228 z228 st228 hQ228
  subst l228 y228 z228
  obtain ⟨rfl, N228q, hh228⟩ := hQ228
  refine own_seq st228 ?_
  have N228 := Fr.app N224 N228q
  show OwnGo p e below (T228.setTop (mkF m 28 #[.val .null, .val (.ref ab214), .val (.int (3 : Int32)), .val (.int (1 : Int32)), .val (.ref wD)] [(.int (0 : Int32))])) _
  refine own_back (fun t k => XS.ifYes X228.here hx rfl (pc0 := 28) (pc' := 34) rfl (hb hby ofn_d28) rfl (Jvm.Free.XT.i0_eq_t (by decide)) (by decide) (by decide) k) ?_
  show OwnGo p e below (T228.setTop (mkF m 34 #[.val .null, .val (.ref ab214), .val (.int (3 : Int32)), .val (.int (1 : Int32)), .val (.ref wD)] [])) _
  refine own_back (fun t k => XS.iinc X228.here hx rfl (hb hby ofn_d34) rfl (l' := #[.val .null, .val (.ref ab214), .val (.int (3 : Int32)), .val (.int (2 : Int32)), .val (.ref wD)]) rfl k) ?_
  show OwnGo p e below (T228.setTop (mkF m 37 #[.val .null, .val (.ref ab214), .val (.int (3 : Int32)), .val (.int (2 : Int32)), .val (.ref wD)] [])) _
  refine own_back (fun t k => XS.goto X228.here hx rfl (pc0 := 37) (pc' := 9) rfl (hb hby ofn_d37) (by decide) (by decide) k) ?_
  show OwnGo p e below (T228.setTop (mkF m 9 #[.val .null, .val (.ref ab214), .val (.int (3 : Int32)), .val (.int (2 : Int32)), .val (.ref wD)] [])) _
  refine own_back (fun t k => XS.iloadN X228.here hx rfl (hb hby ofn_d9) rfl k) ?_
  show OwnGo p e below (T228.setTop (mkF m 10 #[.val .null, .val (.ref ab214), .val (.int (3 : Int32)), .val (.int (2 : Int32)), .val (.ref wD)] [(.int (2 : Int32))])) _
  refine own_back (fun t k => XS.iloadN X228.here hx rfl (hb hby ofn_d10) rfl k) ?_
  show OwnGo p e below (T228.setTop (mkF m 11 #[.val .null, .val (.ref ab214), .val (.int (3 : Int32)), .val (.int (2 : Int32)), .val (.ref wD)] [(.int (3 : Int32)), (.int (2 : Int32))])) _
  refine own_back (fun t k => XS.icmpNo X228.here hx rfl (hb hby ofn_d11) rfl (Jvm.Free.XT.ii_ge_f (by decide)) k) ?_
  show OwnGo p e below (T228.setTop (mkF m 14 #[.val .null, .val (.ref ab214), .val (.int (3 : Int32)), .val (.int (2 : Int32)), .val (.ref wD)] [])) _
  refine own_back (fun t k => XS.aloadN X228.here hx rfl (hb hby ofn_d14) rfl rfl k) ?_
  show OwnGo p e below (T228.setTop (mkF m 15 #[.val .null, .val (.ref ab214), .val (.int (3 : Int32)), .val (.int (2 : Int32)), .val (.ref wD)] [(.ref ab214)])) _
  refine own_back (fun t k => XS.iloadN X228.here hx rfl (hb hby ofn_d15) rfl k) ?_
  show OwnGo p e below (T228.setTop (mkF m 16 #[.val .null, .val (.ref ab214), .val (.int (3 : Int32)), .val (.int (2 : Int32)), .val (.ref wD)] [(.int (2 : Int32)), (.ref ab214)])) _
  obtain ⟨c229, A229, q229, S229, M229, H229, U229⟩ := id V214
  have ib230 : ¬ ((2 : Int32) < 0 ∨ c229.slots.size ≤ ((2 : Int32)).toNatClampNeg) := (inb_of S229 ⟨by decide, by decide⟩)
  refine own_back (fun t k => X228.aaload hx (j := (2 : Int32)) (v := (.ref wR)) (own_hat hh228 A229.1) (State.isArrayOf_alike hZ.alike A229.2.1) rfl A229.2.2 ib230 (H229.at ib230 rfl) (g := (mkF m 16 #[.val .null, .val (.ref ab214), .val (.int (3 : Int32)), .val (.int (2 : Int32)), .val (.ref wD)] [(.int (2 : Int32)), (.ref ab214)])) rfl rfl (hb hby ofn_d16) t k) ?_
  show OwnGo p e below (T228.setTop (mkF m 17 #[.val .null, .val (.ref ab214), .val (.int (3 : Int32)), .val (.int (2 : Int32)), .val (.ref wD)] [(.ref wR)])) _
  refine own_back (fun t k => XS.astore X228.here hx rfl (hb hby ofn_d17) rfl rfl (l' := #[.val .null, .val (.ref ab214), .val (.int (3 : Int32)), .val (.int (2 : Int32)), .val (.ref wR)]) rfl k) ?_
  show OwnGo p e below (T228.setTop (mkF m 19 #[.val .null, .val (.ref ab214), .val (.int (3 : Int32)), .val (.int (2 : Int32)), .val (.ref wR)] [])) _
  refine own_back (fun t k => XS.aload X228.here hx rfl (hb hby ofn_d19) rfl rfl k) ?_
  show OwnGo p e below (T228.setTop (mkF m 21 #[.val .null, .val (.ref ab214), .val (.int (3 : Int32)), .val (.int (2 : Int32)), .val (.ref wR)] [(.ref wR)])) _
  obtain ⟨T231, X231, e231, st231⟩ := getF X228 hx hZ hown (host := "") (Or.inl (hw _ (List.mem_of_getElem? (i := 57) rfl))) Via.refl hh228 (FR.ext O215.2) (g := (mkF m 21 #[.val .null, .val (.ref ab214), .val (.int (3 : Int32)), .val (.int (2 : Int32)), .val (.ref wR)] [(.ref wR)])) rfl rfl (hb hby ofn_d21)
  refine own_back st231 ?_
  show OwnGo p e below (T231.setTop (mkF m 24 #[.val .null, .val (.ref ab214), .val (.int (3 : Int32)), .val (.int (2 : Int32)), .val (.ref wR)] [(.ref kR)])) _
  refine own_back (fun t k => XS.aloadN X231.here hx rfl (hb hby ofn_d24) rfl rfl k) ?_
  show OwnGo p e below (T231.setTop (mkF m 25 #[.val .null, .val (.ref ab214), .val (.int (3 : Int32)), .val (.int (2 : Int32)), .val (.ref wR)] [.null, (.ref kR)])) _
  obtain ⟨cq232, kq232, q232a, q232b, q232c⟩ := isOf hZ e231 (BR.ext O215.2).exa
  obtain ⟨_, _, ⟨T232, L232, k232, n232⟩, -, X232, ⟨Lc232, hQ232, l232, y232, z232⟩, st232⟩ := X231.virtualBack hx (y := (⟨"java/lang/String", "equals", "(Ljava/lang/Object;)Z"⟩ : MethodName)) (z := (⟨"java/lang/String", "equals", "(Ljava/lang/Object;)Z"⟩ : MethodName)) hown (mvT hZ (hw _ (List.mem_of_getElem? (i := 59) rfl))) (mvT hZ (hw _ (List.mem_of_getElem? (i := 60) rfl))) (notFace_of_selects (args := #[]) (mvT hZ (hw _ (List.mem_of_getElem? (i := 62) rfl)))) (mvT hZ (hw _ (List.mem_of_getElem? (i := 62) rfl))) (mvT hZ (hw _ (List.mem_of_getElem? (i := 61) rfl))) (by decide) (own_backN (W := 0) (rm_seqn l Z a0 hw [] kR T214.heap n0 Zs217) hZ (hw _ (List.mem_of_getElem? (i := 63) rfl)) (hw _ (List.mem_of_getElem? (i := 8) rfl)) (by decide) (by decide)) q232a q232c (g := (mkF m 25 #[.val .null, .val (.ref ab214), .val (.int (3 : Int32)), .val (.int (2 : Int32)), .val (.ref wR)] [.null, (.ref kR)])) rfl (by rw [hml]; rfl) (Steps.refl _) (argsL := [.null]) (rest := []) (lenOf ofn_pd1 rfl) rfl (by show 2 * 0 + _ ≤ _; exact Nat.le_of_eq rfl) (hb hby ofn_d25) (fun _ _ => ⟨rfl, e231, Nat.le_of_ble_eq_true rfl, Nat.le_of_ble_eq_true rfl⟩)
  dsimp only [Pt.U, Pt.locs, Pt.cells, Pt.slots] at X232 l232 y232 z232 st232 hQ232
  subst l232 y232 z232
  obtain ⟨rfl, N232q, hh232⟩ := hQ232
  refine own_seq st232 ?_
  have N232 := Fr.app N228 N232q
  show OwnGo p e below (T232.setTop (mkF m 28 #[.val .null, .val (.ref ab214), .val (.int (3 : Int32)), .val (.int (2 : Int32)), .val (.ref wR)] [(.int (0 : Int32))])) _
  refine own_back (fun t k => XS.ifYes X232.here hx rfl (pc0 := 28) (pc' := 34) rfl (hb hby ofn_d28) rfl (Jvm.Free.XT.i0_eq_t (by decide)) (by decide) (by decide) k) ?_
  show OwnGo p e below (T232.setTop (mkF m 34 #[.val .null, .val (.ref ab214), .val (.int (3 : Int32)), .val (.int (2 : Int32)), .val (.ref wR)] [])) _
  refine own_back (fun t k => XS.iinc X232.here hx rfl (hb hby ofn_d34) rfl (l' := #[.val .null, .val (.ref ab214), .val (.int (3 : Int32)), .val (.int (3 : Int32)), .val (.ref wR)]) rfl k) ?_
  show OwnGo p e below (T232.setTop (mkF m 37 #[.val .null, .val (.ref ab214), .val (.int (3 : Int32)), .val (.int (3 : Int32)), .val (.ref wR)] [])) _
  refine own_back (fun t k => XS.goto X232.here hx rfl (pc0 := 37) (pc' := 9) rfl (hb hby ofn_d37) (by decide) (by decide) k) ?_
  show OwnGo p e below (T232.setTop (mkF m 9 #[.val .null, .val (.ref ab214), .val (.int (3 : Int32)), .val (.int (3 : Int32)), .val (.ref wR)] [])) _
  refine own_back (fun t k => XS.iloadN X232.here hx rfl (hb hby ofn_d9) rfl k) ?_
  show OwnGo p e below (T232.setTop (mkF m 10 #[.val .null, .val (.ref ab214), .val (.int (3 : Int32)), .val (.int (3 : Int32)), .val (.ref wR)] [(.int (3 : Int32))])) _
  refine own_back (fun t k => XS.iloadN X232.here hx rfl (hb hby ofn_d10) rfl k) ?_
  show OwnGo p e below (T232.setTop (mkF m 11 #[.val .null, .val (.ref ab214), .val (.int (3 : Int32)), .val (.int (3 : Int32)), .val (.ref wR)] [(.int (3 : Int32)), (.int (3 : Int32))])) _
  refine own_back (fun t k => XS.icmpYes X232.here hx rfl (pc0 := 11) (pc' := 40) rfl (hb hby ofn_d11) rfl (Jvm.Free.XT.ii_ge_t (by decide)) (by decide) (by decide) k) ?_
  show OwnGo p e below (T232.setTop (mkF m 40 #[.val .null, .val (.ref ab214), .val (.int (3 : Int32)), .val (.int (3 : Int32)), .val (.ref wR)] [])) _
  refine own_back (fun t k => XS.aconstNull X232.here hx rfl (hb hby ofn_d40) k) ?_
  show OwnGo p e below (T232.setTop (mkF m 41 #[.val .null, .val (.ref ab214), .val (.int (3 : Int32)), .val (.int (3 : Int32)), .val (.ref wR)] [.null])) _
  refine own_retA X232 hx Bd.notSynchronized Bd.returns rfl rfl (hb hby ofn_d41) hh232 (Nat.le_of_ble_eq_true rfl) (Nat.le_of_ble_eq_true rfl) ?_
  exact ⟨rfl, N232, own_ext KP216⟩
theorem wd_d0 : decode method_2_code 0 = .ok (.iload_n 0, 1) := by decide +kernel
theorem wd_d1 : decode method_2_code 1 = .ok (.ifCond .ne 100, 3) := by decide +kernel
theorem wd_d4 : decode method_2_code 4 = .ok (.iload_n 1, 1) := by decide +kernel
theorem wd_d5 : decode method_2_code 5 = .ok (.iconst 1, 1) := by decide +kernel
theorem wd_d6 : decode method_2_code 6 = .ok (.if_icmp .ne 37, 3) := by decide +kernel
theorem wd_d9 : decode method_2_code 9 = .ok (.bipush 6, 2) := by decide +kernel
theorem wd_d11 : decode method_2_code 11 = .ok (.newarray .char, 2) := by decide +kernel
theorem wd_d13 : decode method_2_code 13 = .ok (.dup, 1) := by decide +kernel
theorem wd_d14 : decode method_2_code 14 = .ok (.iconst 0, 1) := by decide +kernel
theorem wd_d15 : decode method_2_code 15 = .ok (.bipush 115, 2) := by decide +kernel
theorem wd_d17 : decode method_2_code 17 = .ok (.castore, 1) := by decide +kernel
theorem wd_d18 : decode method_2_code 18 = .ok (.dup, 1) := by decide +kernel
theorem wd_d19 : decode method_2_code 19 = .ok (.iconst 1, 1) := by decide +kernel
theorem wd_d20 : decode method_2_code 20 = .ok (.bipush 112, 2) := by decide +kernel
theorem wd_d22 : decode method_2_code 22 = .ok (.castore, 1) := by decide +kernel
theorem wd_d23 : decode method_2_code 23 = .ok (.dup, 1) := by decide +kernel
theorem wd_d24 : decode method_2_code 24 = .ok (.iconst 2, 1) := by decide +kernel
theorem wd_d25 : decode method_2_code 25 = .ok (.bipush 108, 2) := by decide +kernel
theorem wd_d27 : decode method_2_code 27 = .ok (.castore, 1) := by decide +kernel
theorem wd_d28 : decode method_2_code 28 = .ok (.dup, 1) := by decide +kernel
theorem wd_d29 : decode method_2_code 29 = .ok (.iconst 3, 1) := by decide +kernel
theorem wd_d30 : decode method_2_code 30 = .ok (.bipush 105, 2) := by decide +kernel
theorem wd_d32 : decode method_2_code 32 = .ok (.castore, 1) := by decide +kernel
theorem wd_d33 : decode method_2_code 33 = .ok (.dup, 1) := by decide +kernel
theorem wd_d34 : decode method_2_code 34 = .ok (.iconst 4, 1) := by decide +kernel
theorem wd_d35 : decode method_2_code 35 = .ok (.bipush 116, 2) := by decide +kernel
theorem wd_d37 : decode method_2_code 37 = .ok (.castore, 1) := by decide +kernel
theorem wd_d38 : decode method_2_code 38 = .ok (.dup, 1) := by decide +kernel
theorem wd_d39 : decode method_2_code 39 = .ok (.iconst 5, 1) := by decide +kernel
theorem wd_d40 : decode method_2_code 40 = .ok (.iload_n 2, 1) := by decide +kernel
theorem wd_d41 : decode method_2_code 41 = .ok (.castore, 1) := by decide +kernel
theorem wd_d42 : decode method_2_code 42 = .ok (.areturn, 1) := by decide +kernel
theorem wd_d43 : decode method_2_code 43 = .ok (.iload_n 1, 1) := by decide +kernel
theorem wd_d44 : decode method_2_code 44 = .ok (.iconst 2, 1) := by decide +kernel
theorem wd_d45 : decode method_2_code 45 = .ok (.if_icmp .ne 27, 3) := by decide +kernel
theorem wd_d48 : decode method_2_code 48 = .ok (.iconst 4, 1) := by decide +kernel
theorem wd_d49 : decode method_2_code 49 = .ok (.newarray .char, 2) := by decide +kernel
theorem wd_d51 : decode method_2_code 51 = .ok (.dup, 1) := by decide +kernel
theorem wd_d52 : decode method_2_code 52 = .ok (.iconst 0, 1) := by decide +kernel
theorem wd_d53 : decode method_2_code 53 = .ok (.bipush 115, 2) := by decide +kernel
theorem wd_d55 : decode method_2_code 55 = .ok (.castore, 1) := by decide +kernel
theorem wd_d56 : decode method_2_code 56 = .ok (.dup, 1) := by decide +kernel
theorem wd_d57 : decode method_2_code 57 = .ok (.iconst 1, 1) := by decide +kernel
theorem wd_d58 : decode method_2_code 58 = .ok (.bipush 112, 2) := by decide +kernel
theorem wd_d60 : decode method_2_code 60 = .ok (.castore, 1) := by decide +kernel
theorem wd_d61 : decode method_2_code 61 = .ok (.dup, 1) := by decide +kernel
theorem wd_d62 : decode method_2_code 62 = .ok (.iconst 2, 1) := by decide +kernel
theorem wd_d63 : decode method_2_code 63 = .ok (.bipush 108, 2) := by decide +kernel
theorem wd_d65 : decode method_2_code 65 = .ok (.castore, 1) := by decide +kernel
theorem wd_d66 : decode method_2_code 66 = .ok (.dup, 1) := by decide +kernel
theorem wd_d67 : decode method_2_code 67 = .ok (.iconst 3, 1) := by decide +kernel
theorem wd_d68 : decode method_2_code 68 = .ok (.bipush 105, 2) := by decide +kernel
theorem wd_d70 : decode method_2_code 70 = .ok (.castore, 1) := by decide +kernel
theorem wd_d71 : decode method_2_code 71 = .ok (.areturn, 1) := by decide +kernel
theorem wd_d72 : decode method_2_code 72 = .ok (.iconst 5, 1) := by decide +kernel
theorem wd_d73 : decode method_2_code 73 = .ok (.newarray .char, 2) := by decide +kernel
theorem wd_d75 : decode method_2_code 75 = .ok (.dup, 1) := by decide +kernel
theorem wd_d76 : decode method_2_code 76 = .ok (.iconst 0, 1) := by decide +kernel
theorem wd_d77 : decode method_2_code 77 = .ok (.bipush 115, 2) := by decide +kernel
theorem wd_d79 : decode method_2_code 79 = .ok (.castore, 1) := by decide +kernel
theorem wd_d80 : decode method_2_code 80 = .ok (.dup, 1) := by decide +kernel
theorem wd_d81 : decode method_2_code 81 = .ok (.iconst 1, 1) := by decide +kernel
theorem wd_d82 : decode method_2_code 82 = .ok (.bipush 112, 2) := by decide +kernel
theorem wd_d84 : decode method_2_code 84 = .ok (.castore, 1) := by decide +kernel
theorem wd_d85 : decode method_2_code 85 = .ok (.dup, 1) := by decide +kernel
theorem wd_d86 : decode method_2_code 86 = .ok (.iconst 2, 1) := by decide +kernel
theorem wd_d87 : decode method_2_code 87 = .ok (.bipush 108, 2) := by decide +kernel
theorem wd_d89 : decode method_2_code 89 = .ok (.castore, 1) := by decide +kernel
theorem wd_d90 : decode method_2_code 90 = .ok (.dup, 1) := by decide +kernel
theorem wd_d91 : decode method_2_code 91 = .ok (.iconst 3, 1) := by decide +kernel
theorem wd_d92 : decode method_2_code 92 = .ok (.bipush 105, 2) := by decide +kernel
theorem wd_d94 : decode method_2_code 94 = .ok (.castore, 1) := by decide +kernel
theorem wd_d95 : decode method_2_code 95 = .ok (.dup, 1) := by decide +kernel
theorem wd_d96 : decode method_2_code 96 = .ok (.iconst 4, 1) := by decide +kernel
theorem wd_d97 : decode method_2_code 97 = .ok (.bipush 116, 2) := by decide +kernel
theorem wd_d99 : decode method_2_code 99 = .ok (.castore, 1) := by decide +kernel
theorem wd_d100 : decode method_2_code 100 = .ok (.areturn, 1) := by decide +kernel
theorem wd_d101 : decode method_2_code 101 = .ok (.iload_n 0, 1) := by decide +kernel
theorem wd_d102 : decode method_2_code 102 = .ok (.iconst 1, 1) := by decide +kernel
theorem wd_d103 : decode method_2_code 103 = .ok (.if_icmp .ne 333, 3) := by decide +kernel
theorem wd_d106 : decode method_2_code 106 = .ok (.iload_n 1, 1) := by decide +kernel
theorem wd_d107 : decode method_2_code 107 = .ok (.iconst 1, 1) := by decide +kernel
theorem wd_d108 : decode method_2_code 108 = .ok (.if_icmp .ne 115, 3) := by decide +kernel
theorem wd_d111 : decode method_2_code 111 = .ok (.bipush 19, 2) := by decide +kernel
theorem wd_d113 : decode method_2_code 113 = .ok (.newarray .char, 2) := by decide +kernel
theorem wd_d115 : decode method_2_code 115 = .ok (.dup, 1) := by decide +kernel
theorem wd_d116 : decode method_2_code 116 = .ok (.iconst 0, 1) := by decide +kernel
theorem wd_d117 : decode method_2_code 117 = .ok (.bipush 115, 2) := by decide +kernel
theorem wd_d119 : decode method_2_code 119 = .ok (.castore, 1) := by decide +kernel
theorem wd_d120 : decode method_2_code 120 = .ok (.dup, 1) := by decide +kernel
theorem wd_d121 : decode method_2_code 121 = .ok (.iconst 1, 1) := by decide +kernel
theorem wd_d122 : decode method_2_code 122 = .ok (.bipush 116, 2) := by decide +kernel
theorem wd_d124 : decode method_2_code 124 = .ok (.castore, 1) := by decide +kernel
theorem wd_d125 : decode method_2_code 125 = .ok (.dup, 1) := by decide +kernel
theorem wd_d126 : decode method_2_code 126 = .ok (.iconst 2, 1) := by decide +kernel
theorem wd_d127 : decode method_2_code 127 = .ok (.bipush 111, 2) := by decide +kernel
theorem wd_d129 : decode method_2_code 129 = .ok (.castore, 1) := by decide +kernel
theorem wd_d130 : decode method_2_code 130 = .ok (.dup, 1) := by decide +kernel
theorem wd_d131 : decode method_2_code 131 = .ok (.iconst 3, 1) := by decide +kernel
theorem wd_d132 : decode method_2_code 132 = .ok (.bipush 99, 2) := by decide +kernel
theorem wd_d134 : decode method_2_code 134 = .ok (.castore, 1) := by decide +kernel
theorem wd_d135 : decode method_2_code 135 = .ok (.dup, 1) := by decide +kernel
theorem wd_d136 : decode method_2_code 136 = .ok (.iconst 4, 1) := by decide +kernel
theorem wd_d137 : decode method_2_code 137 = .ok (.bipush 107, 2) := by decide +kernel
theorem wd_d139 : decode method_2_code 139 = .ok (.castore, 1) := by decide +kernel
theorem wd_d140 : decode method_2_code 140 = .ok (.dup, 1) := by decide +kernel
theorem wd_d141 : decode method_2_code 141 = .ok (.iconst 5, 1) := by decide +kernel
theorem wd_d142 : decode method_2_code 142 = .ok (.bipush 45, 2) := by decide +kernel
theorem wd_d144 : decode method_2_code 144 = .ok (.castore, 1) := by decide +kernel
theorem wd_d145 : decode method_2_code 145 = .ok (.dup, 1) := by decide +kernel
theorem wd_d146 : decode method_2_code 146 = .ok (.bipush 6, 2) := by decide +kernel
theorem wd_d148 : decode method_2_code 148 = .ok (.bipush 100, 2) := by decide +kernel
theorem wd_d150 : decode method_2_code 150 = .ok (.castore, 1) := by decide +kernel
theorem wd_d151 : decode method_2_code 151 = .ok (.dup, 1) := by decide +kernel
theorem wd_d152 : decode method_2_code 152 = .ok (.bipush 7, 2) := by decide +kernel
theorem wd_d154 : decode method_2_code 154 = .ok (.bipush 105, 2) := by decide +kernel
theorem wd_d156 : decode method_2_code 156 = .ok (.castore, 1) := by decide +kernel
theorem wd_d157 : decode method_2_code 157 = .ok (.dup, 1) := by decide +kernel
theorem wd_d158 : decode method_2_code 158 = .ok (.bipush 8, 2) := by decide +kernel
theorem wd_d160 : decode method_2_code 160 = .ok (.bipush 115, 2) := by decide +kernel
theorem wd_d162 : decode method_2_code 162 = .ok (.castore, 1) := by decide +kernel
theorem wd_d163 : decode method_2_code 163 = .ok (.dup, 1) := by decide +kernel
theorem wd_d164 : decode method_2_code 164 = .ok (.bipush 9, 2) := by decide +kernel
theorem wd_d166 : decode method_2_code 166 = .ok (.bipush 116, 2) := by decide +kernel
theorem wd_d168 : decode method_2_code 168 = .ok (.castore, 1) := by decide +kernel
theorem wd_d169 : decode method_2_code 169 = .ok (.dup, 1) := by decide +kernel
theorem wd_d170 : decode method_2_code 170 = .ok (.bipush 10, 2) := by decide +kernel
theorem wd_d172 : decode method_2_code 172 = .ok (.bipush 114, 2) := by decide +kernel
theorem wd_d174 : decode method_2_code 174 = .ok (.castore, 1) := by decide +kernel
theorem wd_d175 : decode method_2_code 175 = .ok (.dup, 1) := by decide +kernel
theorem wd_d176 : decode method_2_code 176 = .ok (.bipush 11, 2) := by decide +kernel
theorem wd_d178 : decode method_2_code 178 = .ok (.bipush 105, 2) := by decide +kernel
theorem wd_d180 : decode method_2_code 180 = .ok (.castore, 1) := by decide +kernel
theorem wd_d181 : decode method_2_code 181 = .ok (.dup, 1) := by decide +kernel
theorem wd_d182 : decode method_2_code 182 = .ok (.bipush 12, 2) := by decide +kernel
theorem wd_d184 : decode method_2_code 184 = .ok (.bipush 98, 2) := by decide +kernel
theorem wd_d186 : decode method_2_code 186 = .ok (.castore, 1) := by decide +kernel
theorem wd_d187 : decode method_2_code 187 = .ok (.dup, 1) := by decide +kernel
theorem wd_d188 : decode method_2_code 188 = .ok (.bipush 13, 2) := by decide +kernel
theorem wd_d190 : decode method_2_code 190 = .ok (.bipush 117, 2) := by decide +kernel
theorem wd_d192 : decode method_2_code 192 = .ok (.castore, 1) := by decide +kernel
theorem wd_d193 : decode method_2_code 193 = .ok (.dup, 1) := by decide +kernel
theorem wd_d194 : decode method_2_code 194 = .ok (.bipush 14, 2) := by decide +kernel
theorem wd_d196 : decode method_2_code 196 = .ok (.bipush 116, 2) := by decide +kernel
theorem wd_d198 : decode method_2_code 198 = .ok (.castore, 1) := by decide +kernel
theorem wd_d199 : decode method_2_code 199 = .ok (.dup, 1) := by decide +kernel
theorem wd_d200 : decode method_2_code 200 = .ok (.bipush 15, 2) := by decide +kernel
theorem wd_d202 : decode method_2_code 202 = .ok (.bipush 105, 2) := by decide +kernel
theorem wd_d204 : decode method_2_code 204 = .ok (.castore, 1) := by decide +kernel
theorem wd_d205 : decode method_2_code 205 = .ok (.dup, 1) := by decide +kernel
theorem wd_d206 : decode method_2_code 206 = .ok (.bipush 16, 2) := by decide +kernel
theorem wd_d208 : decode method_2_code 208 = .ok (.bipush 111, 2) := by decide +kernel
theorem wd_d210 : decode method_2_code 210 = .ok (.castore, 1) := by decide +kernel
theorem wd_d211 : decode method_2_code 211 = .ok (.dup, 1) := by decide +kernel
theorem wd_d212 : decode method_2_code 212 = .ok (.bipush 17, 2) := by decide +kernel
theorem wd_d214 : decode method_2_code 214 = .ok (.bipush 110, 2) := by decide +kernel
theorem wd_d216 : decode method_2_code 216 = .ok (.castore, 1) := by decide +kernel
theorem wd_d217 : decode method_2_code 217 = .ok (.dup, 1) := by decide +kernel
theorem wd_d218 : decode method_2_code 218 = .ok (.bipush 18, 2) := by decide +kernel
theorem wd_d220 : decode method_2_code 220 = .ok (.iload_n 2, 1) := by decide +kernel
theorem wd_d221 : decode method_2_code 221 = .ok (.castore, 1) := by decide +kernel
theorem wd_d222 : decode method_2_code 222 = .ok (.areturn, 1) := by decide +kernel
theorem wd_d223 : decode method_2_code 223 = .ok (.iload_n 1, 1) := by decide +kernel
theorem wd_d224 : decode method_2_code 224 = .ok (.iconst 2, 1) := by decide +kernel
theorem wd_d225 : decode method_2_code 225 = .ok (.if_icmp .ne 104, 3) := by decide +kernel
theorem wd_d228 : decode method_2_code 228 = .ok (.bipush 17, 2) := by decide +kernel
theorem wd_d230 : decode method_2_code 230 = .ok (.newarray .char, 2) := by decide +kernel
theorem wd_d232 : decode method_2_code 232 = .ok (.dup, 1) := by decide +kernel
theorem wd_d233 : decode method_2_code 233 = .ok (.iconst 0, 1) := by decide +kernel
theorem wd_d234 : decode method_2_code 234 = .ok (.bipush 115, 2) := by decide +kernel
theorem wd_d236 : decode method_2_code 236 = .ok (.castore, 1) := by decide +kernel
theorem wd_d237 : decode method_2_code 237 = .ok (.dup, 1) := by decide +kernel
theorem wd_d238 : decode method_2_code 238 = .ok (.iconst 1, 1) := by decide +kernel
theorem wd_d239 : decode method_2_code 239 = .ok (.bipush 116, 2) := by decide +kernel
theorem wd_d241 : decode method_2_code 241 = .ok (.castore, 1) := by decide +kernel
theorem wd_d242 : decode method_2_code 242 = .ok (.dup, 1) := by decide +kernel
theorem wd_d243 : decode method_2_code 243 = .ok (.iconst 2, 1) := by decide +kernel
theorem wd_d244 : decode method_2_code 244 = .ok (.bipush 111, 2) := by decide +kernel
theorem wd_d246 : decode method_2_code 246 = .ok (.castore, 1) := by decide +kernel
theorem wd_d247 : decode method_2_code 247 = .ok (.dup, 1) := by decide +kernel
theorem wd_d248 : decode method_2_code 248 = .ok (.iconst 3, 1) := by decide +kernel
theorem wd_d249 : decode method_2_code 249 = .ok (.bipush 99, 2) := by decide +kernel
theorem wd_d251 : decode method_2_code 251 = .ok (.castore, 1) := by decide +kernel
theorem wd_d252 : decode method_2_code 252 = .ok (.dup, 1) := by decide +kernel
theorem wd_d253 : decode method_2_code 253 = .ok (.iconst 4, 1) := by decide +kernel
theorem wd_d254 : decode method_2_code 254 = .ok (.bipush 107, 2) := by decide +kernel
theorem wd_d256 : decode method_2_code 256 = .ok (.castore, 1) := by decide +kernel
theorem wd_d257 : decode method_2_code 257 = .ok (.dup, 1) := by decide +kernel
theorem wd_d258 : decode method_2_code 258 = .ok (.iconst 5, 1) := by decide +kernel
theorem wd_d259 : decode method_2_code 259 = .ok (.bipush 45, 2) := by decide +kernel
theorem wd_d261 : decode method_2_code 261 = .ok (.castore, 1) := by decide +kernel
theorem wd_d262 : decode method_2_code 262 = .ok (.dup, 1) := by decide +kernel
theorem wd_d263 : decode method_2_code 263 = .ok (.bipush 6, 2) := by decide +kernel
theorem wd_d265 : decode method_2_code 265 = .ok (.bipush 100, 2) := by decide +kernel
theorem wd_d267 : decode method_2_code 267 = .ok (.castore, 1) := by decide +kernel
theorem wd_d268 : decode method_2_code 268 = .ok (.dup, 1) := by decide +kernel
theorem wd_d269 : decode method_2_code 269 = .ok (.bipush 7, 2) := by decide +kernel
theorem wd_d271 : decode method_2_code 271 = .ok (.bipush 105, 2) := by decide +kernel
theorem wd_d273 : decode method_2_code 273 = .ok (.castore, 1) := by decide +kernel
theorem wd_d274 : decode method_2_code 274 = .ok (.dup, 1) := by decide +kernel
theorem wd_d275 : decode method_2_code 275 = .ok (.bipush 8, 2) := by decide +kernel
theorem wd_d277 : decode method_2_code 277 = .ok (.bipush 115, 2) := by decide +kernel
theorem wd_d279 : decode method_2_code 279 = .ok (.castore, 1) := by decide +kernel
theorem wd_d280 : decode method_2_code 280 = .ok (.dup, 1) := by decide +kernel
theorem wd_d281 : decode method_2_code 281 = .ok (.bipush 9, 2) := by decide +kernel
theorem wd_d283 : decode method_2_code 283 = .ok (.bipush 116, 2) := by decide +kernel
theorem wd_d285 : decode method_2_code 285 = .ok (.castore, 1) := by decide +kernel
theorem wd_d286 : decode method_2_code 286 = .ok (.dup, 1) := by decide +kernel
theorem wd_d287 : decode method_2_code 287 = .ok (.bipush 10, 2) := by decide +kernel
theorem wd_d289 : decode method_2_code 289 = .ok (.bipush 114, 2) := by decide +kernel
theorem wd_d291 : decode method_2_code 291 = .ok (.castore, 1) := by decide +kernel
theorem wd_d292 : decode method_2_code 292 = .ok (.dup, 1) := by decide +kernel
theorem wd_d293 : decode method_2_code 293 = .ok (.bipush 11, 2) := by decide +kernel
theorem wd_d295 : decode method_2_code 295 = .ok (.bipush 105, 2) := by decide +kernel
theorem wd_d297 : decode method_2_code 297 = .ok (.castore, 1) := by decide +kernel
theorem wd_d298 : decode method_2_code 298 = .ok (.dup, 1) := by decide +kernel
theorem wd_d299 : decode method_2_code 299 = .ok (.bipush 12, 2) := by decide +kernel
theorem wd_d301 : decode method_2_code 301 = .ok (.bipush 98, 2) := by decide +kernel
theorem wd_d303 : decode method_2_code 303 = .ok (.castore, 1) := by decide +kernel
theorem wd_d304 : decode method_2_code 304 = .ok (.dup, 1) := by decide +kernel
theorem wd_d305 : decode method_2_code 305 = .ok (.bipush 13, 2) := by decide +kernel
theorem wd_d307 : decode method_2_code 307 = .ok (.bipush 117, 2) := by decide +kernel
theorem wd_d309 : decode method_2_code 309 = .ok (.castore, 1) := by decide +kernel
theorem wd_d310 : decode method_2_code 310 = .ok (.dup, 1) := by decide +kernel
theorem wd_d311 : decode method_2_code 311 = .ok (.bipush 14, 2) := by decide +kernel
theorem wd_d313 : decode method_2_code 313 = .ok (.bipush 116, 2) := by decide +kernel
theorem wd_d315 : decode method_2_code 315 = .ok (.castore, 1) := by decide +kernel
theorem wd_d316 : decode method_2_code 316 = .ok (.dup, 1) := by decide +kernel
theorem wd_d317 : decode method_2_code 317 = .ok (.bipush 15, 2) := by decide +kernel
theorem wd_d319 : decode method_2_code 319 = .ok (.bipush 105, 2) := by decide +kernel
theorem wd_d321 : decode method_2_code 321 = .ok (.castore, 1) := by decide +kernel
theorem wd_d322 : decode method_2_code 322 = .ok (.dup, 1) := by decide +kernel
theorem wd_d323 : decode method_2_code 323 = .ok (.bipush 16, 2) := by decide +kernel
theorem wd_d325 : decode method_2_code 325 = .ok (.bipush 111, 2) := by decide +kernel
theorem wd_d327 : decode method_2_code 327 = .ok (.castore, 1) := by decide +kernel
theorem wd_d328 : decode method_2_code 328 = .ok (.areturn, 1) := by decide +kernel
theorem wd_d329 : decode method_2_code 329 = .ok (.bipush 18, 2) := by decide +kernel
theorem wd_d331 : decode method_2_code 331 = .ok (.newarray .char, 2) := by decide +kernel
theorem wd_d333 : decode method_2_code 333 = .ok (.dup, 1) := by decide +kernel
theorem wd_d334 : decode method_2_code 334 = .ok (.iconst 0, 1) := by decide +kernel
theorem wd_d335 : decode method_2_code 335 = .ok (.bipush 115, 2) := by decide +kernel
theorem wd_d337 : decode method_2_code 337 = .ok (.castore, 1) := by decide +kernel
theorem wd_d338 : decode method_2_code 338 = .ok (.dup, 1) := by decide +kernel
theorem wd_d339 : decode method_2_code 339 = .ok (.iconst 1, 1) := by decide +kernel
theorem wd_d340 : decode method_2_code 340 = .ok (.bipush 116, 2) := by decide +kernel
theorem wd_d342 : decode method_2_code 342 = .ok (.castore, 1) := by decide +kernel
theorem wd_d343 : decode method_2_code 343 = .ok (.dup, 1) := by decide +kernel
theorem wd_d344 : decode method_2_code 344 = .ok (.iconst 2, 1) := by decide +kernel
theorem wd_d345 : decode method_2_code 345 = .ok (.bipush 111, 2) := by decide +kernel
theorem wd_d347 : decode method_2_code 347 = .ok (.castore, 1) := by decide +kernel
theorem wd_d348 : decode method_2_code 348 = .ok (.dup, 1) := by decide +kernel
theorem wd_d349 : decode method_2_code 349 = .ok (.iconst 3, 1) := by decide +kernel
theorem wd_d350 : decode method_2_code 350 = .ok (.bipush 99, 2) := by decide +kernel
theorem wd_d352 : decode method_2_code 352 = .ok (.castore, 1) := by decide +kernel
theorem wd_d353 : decode method_2_code 353 = .ok (.dup, 1) := by decide +kernel
theorem wd_d354 : decode method_2_code 354 = .ok (.iconst 4, 1) := by decide +kernel
theorem wd_d355 : decode method_2_code 355 = .ok (.bipush 107, 2) := by decide +kernel
theorem wd_d357 : decode method_2_code 357 = .ok (.castore, 1) := by decide +kernel
theorem wd_d358 : decode method_2_code 358 = .ok (.dup, 1) := by decide +kernel
theorem wd_d359 : decode method_2_code 359 = .ok (.iconst 5, 1) := by decide +kernel
theorem wd_d360 : decode method_2_code 360 = .ok (.bipush 45, 2) := by decide +kernel
theorem wd_d362 : decode method_2_code 362 = .ok (.castore, 1) := by decide +kernel
theorem wd_d363 : decode method_2_code 363 = .ok (.dup, 1) := by decide +kernel
theorem wd_d364 : decode method_2_code 364 = .ok (.bipush 6, 2) := by decide +kernel
theorem wd_d366 : decode method_2_code 366 = .ok (.bipush 100, 2) := by decide +kernel
theorem wd_d368 : decode method_2_code 368 = .ok (.castore, 1) := by decide +kernel
theorem wd_d369 : decode method_2_code 369 = .ok (.dup, 1) := by decide +kernel
theorem wd_d370 : decode method_2_code 370 = .ok (.bipush 7, 2) := by decide +kernel
theorem wd_d372 : decode method_2_code 372 = .ok (.bipush 105, 2) := by decide +kernel
theorem wd_d374 : decode method_2_code 374 = .ok (.castore, 1) := by decide +kernel
theorem wd_d375 : decode method_2_code 375 = .ok (.dup, 1) := by decide +kernel
theorem wd_d376 : decode method_2_code 376 = .ok (.bipush 8, 2) := by decide +kernel
theorem wd_d378 : decode method_2_code 378 = .ok (.bipush 115, 2) := by decide +kernel
theorem wd_d380 : decode method_2_code 380 = .ok (.castore, 1) := by decide +kernel
theorem wd_d381 : decode method_2_code 381 = .ok (.dup, 1) := by decide +kernel
theorem wd_d382 : decode method_2_code 382 = .ok (.bipush 9, 2) := by decide +kernel
theorem wd_d384 : decode method_2_code 384 = .ok (.bipush 116, 2) := by decide +kernel
theorem wd_d386 : decode method_2_code 386 = .ok (.castore, 1) := by decide +kernel
theorem wd_d387 : decode method_2_code 387 = .ok (.dup, 1) := by decide +kernel
theorem wd_d388 : decode method_2_code 388 = .ok (.bipush 10, 2) := by decide +kernel
theorem wd_d390 : decode method_2_code 390 = .ok (.bipush 114, 2) := by decide +kernel
theorem wd_d392 : decode method_2_code 392 = .ok (.castore, 1) := by decide +kernel
theorem wd_d393 : decode method_2_code 393 = .ok (.dup, 1) := by decide +kernel
theorem wd_d394 : decode method_2_code 394 = .ok (.bipush 11, 2) := by decide +kernel
theorem wd_d396 : decode method_2_code 396 = .ok (.bipush 105, 2) := by decide +kernel
theorem wd_d398 : decode method_2_code 398 = .ok (.castore, 1) := by decide +kernel
theorem wd_d399 : decode method_2_code 399 = .ok (.dup, 1) := by decide +kernel
theorem wd_d400 : decode method_2_code 400 = .ok (.bipush 12, 2) := by decide +kernel
theorem wd_d402 : decode method_2_code 402 = .ok (.bipush 98, 2) := by decide +kernel
theorem wd_d404 : decode method_2_code 404 = .ok (.castore, 1) := by decide +kernel
theorem wd_d405 : decode method_2_code 405 = .ok (.dup, 1) := by decide +kernel
theorem wd_d406 : decode method_2_code 406 = .ok (.bipush 13, 2) := by decide +kernel
theorem wd_d408 : decode method_2_code 408 = .ok (.bipush 117, 2) := by decide +kernel
theorem wd_d410 : decode method_2_code 410 = .ok (.castore, 1) := by decide +kernel
theorem wd_d411 : decode method_2_code 411 = .ok (.dup, 1) := by decide +kernel
theorem wd_d412 : decode method_2_code 412 = .ok (.bipush 14, 2) := by decide +kernel
theorem wd_d414 : decode method_2_code 414 = .ok (.bipush 116, 2) := by decide +kernel
theorem wd_d416 : decode method_2_code 416 = .ok (.castore, 1) := by decide +kernel
theorem wd_d417 : decode method_2_code 417 = .ok (.dup, 1) := by decide +kernel
theorem wd_d418 : decode method_2_code 418 = .ok (.bipush 15, 2) := by decide +kernel
theorem wd_d420 : decode method_2_code 420 = .ok (.bipush 105, 2) := by decide +kernel
theorem wd_d422 : decode method_2_code 422 = .ok (.castore, 1) := by decide +kernel
theorem wd_d423 : decode method_2_code 423 = .ok (.dup, 1) := by decide +kernel
theorem wd_d424 : decode method_2_code 424 = .ok (.bipush 16, 2) := by decide +kernel
theorem wd_d426 : decode method_2_code 426 = .ok (.bipush 111, 2) := by decide +kernel
theorem wd_d428 : decode method_2_code 428 = .ok (.castore, 1) := by decide +kernel
theorem wd_d429 : decode method_2_code 429 = .ok (.dup, 1) := by decide +kernel
theorem wd_d430 : decode method_2_code 430 = .ok (.bipush 17, 2) := by decide +kernel
theorem wd_d432 : decode method_2_code 432 = .ok (.bipush 110, 2) := by decide +kernel
theorem wd_d434 : decode method_2_code 434 = .ok (.castore, 1) := by decide +kernel
theorem wd_d435 : decode method_2_code 435 = .ok (.areturn, 1) := by decide +kernel
theorem wd_d436 : decode method_2_code 436 = .ok (.iload_n 1, 1) := by decide +kernel
theorem wd_d437 : decode method_2_code 437 = .ok (.iconst 1, 1) := by decide +kernel
theorem wd_d438 : decode method_2_code 438 = .ok (.if_icmp .ne 79, 3) := by decide +kernel
theorem wd_d441 : decode method_2_code 441 = .ok (.bipush 13, 2) := by decide +kernel
theorem wd_d443 : decode method_2_code 443 = .ok (.newarray .char, 2) := by decide +kernel
theorem wd_d445 : decode method_2_code 445 = .ok (.dup, 1) := by decide +kernel
theorem wd_d446 : decode method_2_code 446 = .ok (.iconst 0, 1) := by decide +kernel
theorem wd_d447 : decode method_2_code 447 = .ok (.bipush 114, 2) := by decide +kernel
theorem wd_d449 : decode method_2_code 449 = .ok (.castore, 1) := by decide +kernel
theorem wd_d450 : decode method_2_code 450 = .ok (.dup, 1) := by decide +kernel
theorem wd_d451 : decode method_2_code 451 = .ok (.iconst 1, 1) := by decide +kernel
theorem wd_d452 : decode method_2_code 452 = .ok (.bipush 105, 2) := by decide +kernel
theorem wd_d454 : decode method_2_code 454 = .ok (.castore, 1) := by decide +kernel
theorem wd_d455 : decode method_2_code 455 = .ok (.dup, 1) := by decide +kernel
theorem wd_d456 : decode method_2_code 456 = .ok (.iconst 2, 1) := by decide +kernel
theorem wd_d457 : decode method_2_code 457 = .ok (.bipush 103, 2) := by decide +kernel
theorem wd_d459 : decode method_2_code 459 = .ok (.castore, 1) := by decide +kernel
theorem wd_d460 : decode method_2_code 460 = .ok (.dup, 1) := by decide +kernel
theorem wd_d461 : decode method_2_code 461 = .ok (.iconst 3, 1) := by decide +kernel
theorem wd_d462 : decode method_2_code 462 = .ok (.bipush 104, 2) := by decide +kernel
theorem wd_d464 : decode method_2_code 464 = .ok (.castore, 1) := by decide +kernel
theorem wd_d465 : decode method_2_code 465 = .ok (.dup, 1) := by decide +kernel
theorem wd_d466 : decode method_2_code 466 = .ok (.iconst 4, 1) := by decide +kernel
theorem wd_d467 : decode method_2_code 467 = .ok (.bipush 116, 2) := by decide +kernel
theorem wd_d469 : decode method_2_code 469 = .ok (.castore, 1) := by decide +kernel
theorem wd_d470 : decode method_2_code 470 = .ok (.dup, 1) := by decide +kernel
theorem wd_d471 : decode method_2_code 471 = .ok (.iconst 5, 1) := by decide +kernel
theorem wd_d472 : decode method_2_code 472 = .ok (.bipush 115, 2) := by decide +kernel
theorem wd_d474 : decode method_2_code 474 = .ok (.castore, 1) := by decide +kernel
theorem wd_d475 : decode method_2_code 475 = .ok (.dup, 1) := by decide +kernel
theorem wd_d476 : decode method_2_code 476 = .ok (.bipush 6, 2) := by decide +kernel
theorem wd_d478 : decode method_2_code 478 = .ok (.bipush 45, 2) := by decide +kernel
theorem wd_d480 : decode method_2_code 480 = .ok (.castore, 1) := by decide +kernel
theorem wd_d481 : decode method_2_code 481 = .ok (.dup, 1) := by decide +kernel
theorem wd_d482 : decode method_2_code 482 = .ok (.bipush 7, 2) := by decide +kernel
theorem wd_d484 : decode method_2_code 484 = .ok (.bipush 105, 2) := by decide +kernel
theorem wd_d486 : decode method_2_code 486 = .ok (.castore, 1) := by decide +kernel
theorem wd_d487 : decode method_2_code 487 = .ok (.dup, 1) := by decide +kernel
theorem wd_d488 : decode method_2_code 488 = .ok (.bipush 8, 2) := by decide +kernel
theorem wd_d490 : decode method_2_code 490 = .ok (.bipush 115, 2) := by decide +kernel
theorem wd_d492 : decode method_2_code 492 = .ok (.castore, 1) := by decide +kernel
theorem wd_d493 : decode method_2_code 493 = .ok (.dup, 1) := by decide +kernel
theorem wd_d494 : decode method_2_code 494 = .ok (.bipush 9, 2) := by decide +kernel
theorem wd_d496 : decode method_2_code 496 = .ok (.bipush 115, 2) := by decide +kernel
theorem wd_d498 : decode method_2_code 498 = .ok (.castore, 1) := by decide +kernel
theorem wd_d499 : decode method_2_code 499 = .ok (.dup, 1) := by decide +kernel
theorem wd_d500 : decode method_2_code 500 = .ok (.bipush 10, 2) := by decide +kernel
theorem wd_d502 : decode method_2_code 502 = .ok (.bipush 117, 2) := by decide +kernel
theorem wd_d504 : decode method_2_code 504 = .ok (.castore, 1) := by decide +kernel
theorem wd_d505 : decode method_2_code 505 = .ok (.dup, 1) := by decide +kernel
theorem wd_d506 : decode method_2_code 506 = .ok (.bipush 11, 2) := by decide +kernel
theorem wd_d508 : decode method_2_code 508 = .ok (.bipush 101, 2) := by decide +kernel
theorem wd_d510 : decode method_2_code 510 = .ok (.castore, 1) := by decide +kernel
theorem wd_d511 : decode method_2_code 511 = .ok (.dup, 1) := by decide +kernel
theorem wd_d512 : decode method_2_code 512 = .ok (.bipush 12, 2) := by decide +kernel
theorem wd_d514 : decode method_2_code 514 = .ok (.iload_n 2, 1) := by decide +kernel
theorem wd_d515 : decode method_2_code 515 = .ok (.castore, 1) := by decide +kernel
theorem wd_d516 : decode method_2_code 516 = .ok (.areturn, 1) := by decide +kernel
theorem wd_d517 : decode method_2_code 517 = .ok (.iload_n 1, 1) := by decide +kernel
theorem wd_d518 : decode method_2_code 518 = .ok (.iconst 2, 1) := by decide +kernel
theorem wd_d519 : decode method_2_code 519 = .ok (.if_icmp .ne 68, 3) := by decide +kernel
theorem wd_d522 : decode method_2_code 522 = .ok (.bipush 11, 2) := by decide +kernel
theorem wd_d524 : decode method_2_code 524 = .ok (.newarray .char, 2) := by decide +kernel
theorem wd_d526 : decode method_2_code 526 = .ok (.dup, 1) := by decide +kernel
theorem wd_d527 : decode method_2_code 527 = .ok (.iconst 0, 1) := by decide +kernel
theorem wd_d528 : decode method_2_code 528 = .ok (.bipush 114, 2) := by decide +kernel
theorem wd_d530 : decode method_2_code 530 = .ok (.castore, 1) := by decide +kernel
theorem wd_d531 : decode method_2_code 531 = .ok (.dup, 1) := by decide +kernel
theorem wd_d532 : decode method_2_code 532 = .ok (.iconst 1, 1) := by decide +kernel
theorem wd_d533 : decode method_2_code 533 = .ok (.bipush 105, 2) := by decide +kernel
theorem wd_d535 : decode method_2_code 535 = .ok (.castore, 1) := by decide +kernel
theorem wd_d536 : decode method_2_code 536 = .ok (.dup, 1) := by decide +kernel
theorem wd_d537 : decode method_2_code 537 = .ok (.iconst 2, 1) := by decide +kernel
theorem wd_d538 : decode method_2_code 538 = .ok (.bipush 103, 2) := by decide +kernel
theorem wd_d540 : decode method_2_code 540 = .ok (.castore, 1) := by decide +kernel
theorem wd_d541 : decode method_2_code 541 = .ok (.dup, 1) := by decide +kernel
theorem wd_d542 : decode method_2_code 542 = .ok (.iconst 3, 1) := by decide +kernel
theorem wd_d543 : decode method_2_code 543 = .ok (.bipush 104, 2) := by decide +kernel
theorem wd_d545 : decode method_2_code 545 = .ok (.castore, 1) := by decide +kernel
theorem wd_d546 : decode method_2_code 546 = .ok (.dup, 1) := by decide +kernel
theorem wd_d547 : decode method_2_code 547 = .ok (.iconst 4, 1) := by decide +kernel
theorem wd_d548 : decode method_2_code 548 = .ok (.bipush 116, 2) := by decide +kernel
theorem wd_d550 : decode method_2_code 550 = .ok (.castore, 1) := by decide +kernel
theorem wd_d551 : decode method_2_code 551 = .ok (.dup, 1) := by decide +kernel
theorem wd_d552 : decode method_2_code 552 = .ok (.iconst 5, 1) := by decide +kernel
theorem wd_d553 : decode method_2_code 553 = .ok (.bipush 115, 2) := by decide +kernel
theorem wd_d555 : decode method_2_code 555 = .ok (.castore, 1) := by decide +kernel
theorem wd_d556 : decode method_2_code 556 = .ok (.dup, 1) := by decide +kernel
theorem wd_d557 : decode method_2_code 557 = .ok (.bipush 6, 2) := by decide +kernel
theorem wd_d559 : decode method_2_code 559 = .ok (.bipush 45, 2) := by decide +kernel
theorem wd_d561 : decode method_2_code 561 = .ok (.castore, 1) := by decide +kernel
theorem wd_d562 : decode method_2_code 562 = .ok (.dup, 1) := by decide +kernel
theorem wd_d563 : decode method_2_code 563 = .ok (.bipush 7, 2) := by decide +kernel
theorem wd_d565 : decode method_2_code 565 = .ok (.bipush 105, 2) := by decide +kernel
theorem wd_d567 : decode method_2_code 567 = .ok (.castore, 1) := by decide +kernel
theorem wd_d568 : decode method_2_code 568 = .ok (.dup, 1) := by decide +kernel
theorem wd_d569 : decode method_2_code 569 = .ok (.bipush 8, 2) := by decide +kernel
theorem wd_d571 : decode method_2_code 571 = .ok (.bipush 115, 2) := by decide +kernel
theorem wd_d573 : decode method_2_code 573 = .ok (.castore, 1) := by decide +kernel
theorem wd_d574 : decode method_2_code 574 = .ok (.dup, 1) := by decide +kernel
theorem wd_d575 : decode method_2_code 575 = .ok (.bipush 9, 2) := by decide +kernel
theorem wd_d577 : decode method_2_code 577 = .ok (.bipush 115, 2) := by decide +kernel
theorem wd_d579 : decode method_2_code 579 = .ok (.castore, 1) := by decide +kernel
theorem wd_d580 : decode method_2_code 580 = .ok (.dup, 1) := by decide +kernel
theorem wd_d581 : decode method_2_code 581 = .ok (.bipush 10, 2) := by decide +kernel
theorem wd_d583 : decode method_2_code 583 = .ok (.bipush 117, 2) := by decide +kernel
theorem wd_d585 : decode method_2_code 585 = .ok (.castore, 1) := by decide +kernel
theorem wd_d586 : decode method_2_code 586 = .ok (.areturn, 1) := by decide +kernel
theorem wd_d587 : decode method_2_code 587 = .ok (.bipush 12, 2) := by decide +kernel
theorem wd_d589 : decode method_2_code 589 = .ok (.newarray .char, 2) := by decide +kernel
theorem wd_d591 : decode method_2_code 591 = .ok (.dup, 1) := by decide +kernel
theorem wd_d592 : decode method_2_code 592 = .ok (.iconst 0, 1) := by decide +kernel
theorem wd_d593 : decode method_2_code 593 = .ok (.bipush 114, 2) := by decide +kernel
theorem wd_d595 : decode method_2_code 595 = .ok (.castore, 1) := by decide +kernel
theorem wd_d596 : decode method_2_code 596 = .ok (.dup, 1) := by decide +kernel
theorem wd_d597 : decode method_2_code 597 = .ok (.iconst 1, 1) := by decide +kernel
theorem wd_d598 : decode method_2_code 598 = .ok (.bipush 105, 2) := by decide +kernel
theorem wd_d600 : decode method_2_code 600 = .ok (.castore, 1) := by decide +kernel
theorem wd_d601 : decode method_2_code 601 = .ok (.dup, 1) := by decide +kernel
theorem wd_d602 : decode method_2_code 602 = .ok (.iconst 2, 1) := by decide +kernel
theorem wd_d603 : decode method_2_code 603 = .ok (.bipush 103, 2) := by decide +kernel
theorem wd_d605 : decode method_2_code 605 = .ok (.castore, 1) := by decide +kernel
theorem wd_d606 : decode method_2_code 606 = .ok (.dup, 1) := by decide +kernel
theorem wd_d607 : decode method_2_code 607 = .ok (.iconst 3, 1) := by decide +kernel
theorem wd_d608 : decode method_2_code 608 = .ok (.bipush 104, 2) := by decide +kernel
theorem wd_d610 : decode method_2_code 610 = .ok (.castore, 1) := by decide +kernel
theorem wd_d611 : decode method_2_code 611 = .ok (.dup, 1) := by decide +kernel
theorem wd_d612 : decode method_2_code 612 = .ok (.iconst 4, 1) := by decide +kernel
theorem wd_d613 : decode method_2_code 613 = .ok (.bipush 116, 2) := by decide +kernel
theorem wd_d615 : decode method_2_code 615 = .ok (.castore, 1) := by decide +kernel
theorem wd_d616 : decode method_2_code 616 = .ok (.dup, 1) := by decide +kernel
theorem wd_d617 : decode method_2_code 617 = .ok (.iconst 5, 1) := by decide +kernel
theorem wd_d618 : decode method_2_code 618 = .ok (.bipush 115, 2) := by decide +kernel
theorem wd_d620 : decode method_2_code 620 = .ok (.castore, 1) := by decide +kernel
theorem wd_d621 : decode method_2_code 621 = .ok (.dup, 1) := by decide +kernel
theorem wd_d622 : decode method_2_code 622 = .ok (.bipush 6, 2) := by decide +kernel
theorem wd_d624 : decode method_2_code 624 = .ok (.bipush 45, 2) := by decide +kernel
theorem wd_d626 : decode method_2_code 626 = .ok (.castore, 1) := by decide +kernel
theorem wd_d627 : decode method_2_code 627 = .ok (.dup, 1) := by decide +kernel
theorem wd_d628 : decode method_2_code 628 = .ok (.bipush 7, 2) := by decide +kernel
theorem wd_d630 : decode method_2_code 630 = .ok (.bipush 105, 2) := by decide +kernel
theorem wd_d632 : decode method_2_code 632 = .ok (.castore, 1) := by decide +kernel
theorem wd_d633 : decode method_2_code 633 = .ok (.dup, 1) := by decide +kernel
theorem wd_d634 : decode method_2_code 634 = .ok (.bipush 8, 2) := by decide +kernel
theorem wd_d636 : decode method_2_code 636 = .ok (.bipush 115, 2) := by decide +kernel
theorem wd_d638 : decode method_2_code 638 = .ok (.castore, 1) := by decide +kernel
theorem wd_d639 : decode method_2_code 639 = .ok (.dup, 1) := by decide +kernel
theorem wd_d640 : decode method_2_code 640 = .ok (.bipush 9, 2) := by decide +kernel
theorem wd_d642 : decode method_2_code 642 = .ok (.bipush 115, 2) := by decide +kernel
theorem wd_d644 : decode method_2_code 644 = .ok (.castore, 1) := by decide +kernel
theorem wd_d645 : decode method_2_code 645 = .ok (.dup, 1) := by decide +kernel
theorem wd_d646 : decode method_2_code 646 = .ok (.bipush 10, 2) := by decide +kernel
theorem wd_d648 : decode method_2_code 648 = .ok (.bipush 117, 2) := by decide +kernel
theorem wd_d650 : decode method_2_code 650 = .ok (.castore, 1) := by decide +kernel
theorem wd_d651 : decode method_2_code 651 = .ok (.dup, 1) := by decide +kernel
theorem wd_d652 : decode method_2_code 652 = .ok (.bipush 11, 2) := by decide +kernel
theorem wd_d654 : decode method_2_code 654 = .ok (.bipush 101, 2) := by decide +kernel
theorem wd_d656 : decode method_2_code 656 = .ok (.castore, 1) := by decide +kernel
theorem wd_d657 : decode method_2_code 657 = .ok (.areturn, 1) := by decide +kernel
theorem wd_pn : plainName "com/example/indexwright/indexwright/marketdata/KindOfPinLaw" = true := by first | (simp [plainName, overriddenIn]; done) | decide +kernel
theorem wd_ef (m : MethodId) (x0 : Int32) (x1 : Int32) (x2 : Int32) : entryFrame m #[(.int x0), (.int x1), (.int x2)] 3 = mkF m 0 #[.val (.int x0), .val (.int x1), .val (.int x2)] [] := by first | (simp [entryFrame, mkF, argsToLocals, Value.category]; done) | rfl
set_option maxRecDepth 65536 in
set_option maxHeartbeats 40000000 in
theorem rm_wd (l : Launch) (Z : State) (a0 : Array Value) (hw : ∀ d ∈ tables_1, d.before a0 Z = true) (ws : List Jvm.Cond) (x0 : Int32) (x1 : Int32) (x2 : Int32) (h0 : Heap) (n0 : Nat) (Z0 : n0 ≤ h0.size) (OL : Old Z n0 h0) (hx2 : OwnCh x2) :
    MetFree l (⟨"com/example/indexwright/indexwright/marketdata/KindOfPinLaw", "word", "(IIC)[C"⟩ : MethodName) (head1 (Jvm.Cond.code (⟨"com/example/indexwright/indexwright/marketdata/KindOfPinLaw", "word", "(IIC)[C"⟩ : MethodName) method_2_code 3 (some (.array .char)) :: ws) ({ frames := 0, cells := 1, slots := 19, locals := 0 } : Room)) (fun a U => a = #[(.int x0), (.int x1), (.int x2)] ∧ Z.Warmed39 U.vm ∧ U.heap = h0) (fun _ _ _ _ _ => True) (fun _ U o U' => OwnEnd U (fun v h L => ∃ (a : Addr) (k : ClassId) (cs : List Int32), v = some (.ref a) ∧ Fr n0 L ∧ Ext h0 h ∧ Arv Z h a k .char (Int32.ofNat cs.length) (cs.map Value.int) (.int 0) ∧ h0.size ≤ a ∧ (∀ y ∈ cs, OwnCh y) ∧ 1 ≤ cs.length ∧ cs.length ≤ 19) ({ frames := 0, cells := 1, slots := 19, locals := 0 } : Room).cells ({ frames := 0, cells := 1, slots := 19, locals := 0 } : Room).slots o U') := by
  refine MetFree.of_bodySF (plainFor_of_name wd_pn) hisR ?_
  intro p e s m args below meth c s₁ Bd hml0 hP hK
  obtain ⟨rfl, hZ, hh⟩ := hP
  have hx := Bd.exec
  have hby := Bd.bytes
  have hml : c.maxLocals = 3 := hml0
  have hown : s.vm.findClass "com/example/indexwright/indexwright/marketdata/KindOfPinLaw" = some m.cls := findClass_of_methodNamed Bd.named
  have hnm := (name_of_methodNamed Bd.named Bd.method).1
  have X0 : Stand p l e ({ frames := 0, cells := 1, slots := 19, locals := 0 } : Room) s m #[(.int x0), (.int x1), (.int x2)] below meth c s₁ [] 0 0 := Stand.of_body Bd
  have e0 : s₁.heap = h0 := by rw [← hh, Bd.state]; rfl
  have N0 := Fr.nil n0
  have KP0 := Keep.refl h0 []
  refine own_go (Q := (OwnEnd s (fun v h L => ∃ (a : Addr) (k : ClassId) (cs : List Int32), v = some (.ref a) ∧ Fr n0 L ∧ Ext h0 h ∧ Arv Z h a k .char (Int32.ofNat cs.length) (cs.map Value.int) (.int 0) ∧ h0.size ≤ a ∧ (∀ y ∈ cs, OwnCh y) ∧ 1 ≤ cs.length ∧ cs.length ≤ 19) ({ frames := 0, cells := 1, slots := 19, locals := 0 } : Room).cells ({ frames := 0, cells := 1, slots := 19, locals := 0 } : Room).slots)) ?_
  refine own_back (fun t k => castTop (wd_ef m x0 x1 x2) k) ?_
  show OwnGo p e below (s₁.setTop (mkF m 0 #[.val (.int x0), .val (.int x1), .val (.int x2)] [])) _
  refine own_back (fun t k => XS.iloadN X0.here hx rfl (hb hby wd_d0) rfl k) ?_
  show OwnGo p e below (s₁.setTop (mkF m 1 #[.val (.int x0), .val (.int x1), .val (.int x2)] [(.int x0)])) _
  by_cases hc1_233 : x0 = (0 : Int32)
  · refine own_back (fun t k => XS.ifNo X0.here hx rfl (hb hby wd_d1) rfl (Jvm.Free.XT.i0_ne_f hc1_233) k) ?_
    show OwnGo p e below (s₁.setTop (mkF m 4 #[.val (.int x0), .val (.int x1), .val (.int x2)] [])) _
    refine own_back (fun t k => XS.iloadN X0.here hx rfl (hb hby wd_d4) rfl k) ?_
    show OwnGo p e below (s₁.setTop (mkF m 5 #[.val (.int x0), .val (.int x1), .val (.int x2)] [(.int x1)])) _
    refine own_back (fun t k => XS.iconst X0.here hx rfl (hb hby wd_d5) k) ?_
    show OwnGo p e below (s₁.setTop (mkF m 6 #[.val (.int x0), .val (.int x1), .val (.int x2)] [(.int (1 : Int32)), (.int x1)])) _
    by_cases hc6_234 : x1 = (1 : Int32)
    · refine own_back (fun t k => XS.icmpNo X0.here hx rfl (hb hby wd_d6) rfl (Jvm.Free.XT.ii_ne_f hc6_234) k) ?_
      show OwnGo p e below (s₁.setTop (mkF m 9 #[.val (.int x0), .val (.int x1), .val (.int x2)] [])) _
      refine own_back (fun t k => XS.bipush X0.here hx rfl (hb hby wd_d9) k) ?_
      show OwnGo p e below (s₁.setTop (mkF m 11 #[.val (.int x0), .val (.int x1), .val (.int x2)] [(.int (6 : Int32))])) _
      obtain ⟨T235, h235, k235, X235, e235, E235, A235, st235⟩ := newP X0 hx hZ (hw _ (List.mem_of_getElem? (i := 5) rfl)) e0 (g := (mkF m 11 #[.val (.int x0), .val (.int x1), .val (.int x2)] [(.int (6 : Int32))])) rfl (hb hby wd_d11) rfl (by decide) (cap := 6) (by decide) (by decide) (Nat.le_of_ble_eq_true rfl) (Nat.le_of_ble_eq_true rfl)
      obtain ⟨b235, g235⟩ : ∃ z, z = h0.size := ⟨_, rfl⟩
      have ge236 : n0 ≤ b235 := Nat.le_trans Z0 (Nat.le_of_eq g235.symm)
      have sz237 : h0.size ≤ b235 := Nat.le_trans KP0.1 (Nat.le_of_eq g235.symm)
      rw [← g235] at A235 st235
      have O238 := OL.ext E235
      have KP239 := KP0.ext E235
      have Zs240 := Nat.le_trans Z0 E235.1
      have V241 : Arv Z h235 b235 k235 .char (6 : Int32) [(.int (0 : Int32)), (.int (0 : Int32)), (.int (0 : Int32)), (.int (0 : Int32)), (.int (0 : Int32)), (.int (0 : Int32))] (.int (0 : Int32)) := (Arv.new A235 (by decide)).pad (pad_rep [] (.int (0 : Int32)) 6)
      refine own_back st235 ?_
      show OwnGo p e below (T235.setTop (mkF m 13 #[.val (.int x0), .val (.int x1), .val (.int x2)] [(.ref b235)])) _
      refine own_back (fun t k => XS.dup X235.here hx rfl (hb hby wd_d13) rfl rfl k) ?_
      show OwnGo p e below (T235.setTop (mkF m 14 #[.val (.int x0), .val (.int x1), .val (.int x2)] [(.ref b235), (.ref b235)])) _
      refine own_back (fun t k => XS.iconst X235.here hx rfl (hb hby wd_d14) k) ?_
      show OwnGo p e below (T235.setTop (mkF m 15 #[.val (.int x0), .val (.int x1), .val (.int x2)] [(.int (0 : Int32)), (.ref b235), (.ref b235)])) _
      refine own_back (fun t k => XS.bipush X235.here hx rfl (hb hby wd_d15) k) ?_
      show OwnGo p e below (T235.setTop (mkF m 17 #[.val (.int x0), .val (.int x1), .val (.int x2)] [(.int (115 : Int32)), (.int (0 : Int32)), (.ref b235), (.ref b235)])) _
      obtain ⟨c242, A242, q242, S242, M242, H242, U242⟩ := id V241
      obtain ⟨T243, h243, X243, e243, W243, st243⟩ := stC X235 hx hZ e235 A242 (j := (0 : Int32)) (inb_of S242 ⟨by decide, by decide⟩) (g := (mkF m 17 #[.val (.int x0), .val (.int x1), .val (.int x2)] [(.int (115 : Int32)), (.int (0 : Int32)), (.ref b235), (.ref b235)])) rfl rfl (hb hby wd_d17)
      have O244 := O238.wr W243 ge236
      have KP245 := KP239.wr W243 (Or.inr sz237)
      have Zs246 := Nat.le_trans Zs240 (Keep.of_wr W243).1
      have V247 : Arv Z h243 b235 k235 .char (6 : Int32) [(.int (nar .char (115 : Int32))), (.int (0 : Int32)), (.int (0 : Int32)), (.int (0 : Int32)), (.int (0 : Int32)), (.int (0 : Int32))] (.int (0 : Int32)) := Arv.set A242 q242 S242 M242 H242 U242 (fits_nar_char _) W243 0 rfl (Nat.le_of_ble_eq_true rfl)
      have N248 := Fr.snoc X243 N0 ge236
      refine own_back st243 ?_
      show OwnGo p e below (T243.setTop (mkF m 18 #[.val (.int x0), .val (.int x1), .val (.int x2)] [(.ref b235)])) _
      refine own_back (fun t k => XS.dup X243.here hx rfl (hb hby wd_d18) rfl rfl k) ?_
      show OwnGo p e below (T243.setTop (mkF m 19 #[.val (.int x0), .val (.int x1), .val (.int x2)] [(.ref b235), (.ref b235)])) _
      refine own_back (fun t k => XS.iconst X243.here hx rfl (hb hby wd_d19) k) ?_
      show OwnGo p e below (T243.setTop (mkF m 20 #[.val (.int x0), .val (.int x1), .val (.int x2)] [(.int (1 : Int32)), (.ref b235), (.ref b235)])) _
      refine own_back (fun t k => XS.bipush X243.here hx rfl (hb hby wd_d20) k) ?_
      show OwnGo p e below (T243.setTop (mkF m 22 #[.val (.int x0), .val (.int x1), .val (.int x2)] [(.int (112 : Int32)), (.int (1 : Int32)), (.ref b235), (.ref b235)])) _
      obtain ⟨c249, A249, q249, S249, M249, H249, U249⟩ := id V247
      obtain ⟨T250, h250, X250, e250, W250, st250⟩ := stC X243 hx hZ e243 A249 (j := (1 : Int32)) (inb_of S249 ⟨by decide, by decide⟩) (g := (mkF m 22 #[.val (.int x0), .val (.int x1), .val (.int x2)] [(.int (112 : Int32)), (.int (1 : Int32)), (.ref b235), (.ref b235)])) rfl rfl (hb hby wd_d22)
      have O251 := O244.wr W250 ge236
      have KP252 := KP245.wr W250 (Or.inr sz237)
      have Zs253 := Nat.le_trans Zs246 (Keep.of_wr W250).1
      have V254 : Arv Z h250 b235 k235 .char (6 : Int32) [(.int (nar .char (115 : Int32))), (.int (nar .char (112 : Int32))), (.int (0 : Int32)), (.int (0 : Int32)), (.int (0 : Int32)), (.int (0 : Int32))] (.int (0 : Int32)) := Arv.set A249 q249 S249 M249 H249 U249 (fits_nar_char _) W250 1 rfl (Nat.le_of_ble_eq_true rfl)
      have N255 := Fr.snoc X250 N248 ge236
      refine own_back st250 ?_
      show OwnGo p e below (T250.setTop (mkF m 23 #[.val (.int x0), .val (.int x1), .val (.int x2)] [(.ref b235)])) _
      refine own_back (fun t k => XS.dup X250.here hx rfl (hb hby wd_d23) rfl rfl k) ?_
      show OwnGo p e below (T250.setTop (mkF m 24 #[.val (.int x0), .val (.int x1), .val (.int x2)] [(.ref b235), (.ref b235)])) _
      refine own_back (fun t k => XS.iconst X250.here hx rfl (hb hby wd_d24) k) ?_
      show OwnGo p e below (T250.setTop (mkF m 25 #[.val (.int x0), .val (.int x1), .val (.int x2)] [(.int (2 : Int32)), (.ref b235), (.ref b235)])) _
      refine own_back (fun t k => XS.bipush X250.here hx rfl (hb hby wd_d25) k) ?_
      show OwnGo p e below (T250.setTop (mkF m 27 #[.val (.int x0), .val (.int x1), .val (.int x2)] [(.int (108 : Int32)), (.int (2 : Int32)), (.ref b235), (.ref b235)])) _
      obtain ⟨c256, A256, q256, S256, M256, H256, U256⟩ := id V254
      obtain ⟨T257, h257, X257, e257, W257, st257⟩ := stC X250 hx hZ e250 A256 (j := (2 : Int32)) (inb_of S256 ⟨by decide, by decide⟩) (g := (mkF m 27 #[.val (.int x0), .val (.int x1), .val (.int x2)] [(.int (108 : Int32)), (.int (2 : Int32)), (.ref b235), (.ref b235)])) rfl rfl (hb hby wd_d27)
      have O258 := O251.wr W257 ge236
      have KP259 := KP252.wr W257 (Or.inr sz237)
      have Zs260 := Nat.le_trans Zs253 (Keep.of_wr W257).1
      have V261 : Arv Z h257 b235 k235 .char (6 : Int32) [(.int (nar .char (115 : Int32))), (.int (nar .char (112 : Int32))), (.int (nar .char (108 : Int32))), (.int (0 : Int32)), (.int (0 : Int32)), (.int (0 : Int32))] (.int (0 : Int32)) := Arv.set A256 q256 S256 M256 H256 U256 (fits_nar_char _) W257 2 rfl (Nat.le_of_ble_eq_true rfl)
      have N262 := Fr.snoc X257 N255 ge236
      refine own_back st257 ?_
      show OwnGo p e below (T257.setTop (mkF m 28 #[.val (.int x0), .val (.int x1), .val (.int x2)] [(.ref b235)])) _
      refine own_back (fun t k => XS.dup X257.here hx rfl (hb hby wd_d28) rfl rfl k) ?_
      show OwnGo p e below (T257.setTop (mkF m 29 #[.val (.int x0), .val (.int x1), .val (.int x2)] [(.ref b235), (.ref b235)])) _
      refine own_back (fun t k => XS.iconst X257.here hx rfl (hb hby wd_d29) k) ?_
      show OwnGo p e below (T257.setTop (mkF m 30 #[.val (.int x0), .val (.int x1), .val (.int x2)] [(.int (3 : Int32)), (.ref b235), (.ref b235)])) _
      refine own_back (fun t k => XS.bipush X257.here hx rfl (hb hby wd_d30) k) ?_
      show OwnGo p e below (T257.setTop (mkF m 32 #[.val (.int x0), .val (.int x1), .val (.int x2)] [(.int (105 : Int32)), (.int (3 : Int32)), (.ref b235), (.ref b235)])) _
      obtain ⟨c263, A263, q263, S263, M263, H263, U263⟩ := id V261
      obtain ⟨T264, h264, X264, e264, W264, st264⟩ := stC X257 hx hZ e257 A263 (j := (3 : Int32)) (inb_of S263 ⟨by decide, by decide⟩) (g := (mkF m 32 #[.val (.int x0), .val (.int x1), .val (.int x2)] [(.int (105 : Int32)), (.int (3 : Int32)), (.ref b235), (.ref b235)])) rfl rfl (hb hby wd_d32)
      have O265 := O258.wr W264 ge236
      have KP266 := KP259.wr W264 (Or.inr sz237)
      have Zs267 := Nat.le_trans Zs260 (Keep.of_wr W264).1
      have V268 : Arv Z h264 b235 k235 .char (6 : Int32) [(.int (nar .char (115 : Int32))), (.int (nar .char (112 : Int32))), (.int (nar .char (108 : Int32))), (.int (nar .char (105 : Int32))), (.int (0 : Int32)), (.int (0 : Int32))] (.int (0 : Int32)) := Arv.set A263 q263 S263 M263 H263 U263 (fits_nar_char _) W264 3 rfl (Nat.le_of_ble_eq_true rfl)
      have N269 := Fr.snoc X264 N262 ge236
      refine own_back st264 ?_
      show OwnGo p e below (T264.setTop (mkF m 33 #[.val (.int x0), .val (.int x1), .val (.int x2)] [(.ref b235)])) _
      refine own_back (fun t k => XS.dup X264.here hx rfl (hb hby wd_d33) rfl rfl k) ?_
      show OwnGo p e below (T264.setTop (mkF m 34 #[.val (.int x0), .val (.int x1), .val (.int x2)] [(.ref b235), (.ref b235)])) _
      refine own_back (fun t k => XS.iconst X264.here hx rfl (hb hby wd_d34) k) ?_
      show OwnGo p e below (T264.setTop (mkF m 35 #[.val (.int x0), .val (.int x1), .val (.int x2)] [(.int (4 : Int32)), (.ref b235), (.ref b235)])) _
      refine own_back (fun t k => XS.bipush X264.here hx rfl (hb hby wd_d35) k) ?_
      show OwnGo p e below (T264.setTop (mkF m 37 #[.val (.int x0), .val (.int x1), .val (.int x2)] [(.int (116 : Int32)), (.int (4 : Int32)), (.ref b235), (.ref b235)])) _
      obtain ⟨c270, A270, q270, S270, M270, H270, U270⟩ := id V268
      obtain ⟨T271, h271, X271, e271, W271, st271⟩ := stC X264 hx hZ e264 A270 (j := (4 : Int32)) (inb_of S270 ⟨by decide, by decide⟩) (g := (mkF m 37 #[.val (.int x0), .val (.int x1), .val (.int x2)] [(.int (116 : Int32)), (.int (4 : Int32)), (.ref b235), (.ref b235)])) rfl rfl (hb hby wd_d37)
      have O272 := O265.wr W271 ge236
      have KP273 := KP266.wr W271 (Or.inr sz237)
      have Zs274 := Nat.le_trans Zs267 (Keep.of_wr W271).1
      have V275 : Arv Z h271 b235 k235 .char (6 : Int32) [(.int (nar .char (115 : Int32))), (.int (nar .char (112 : Int32))), (.int (nar .char (108 : Int32))), (.int (nar .char (105 : Int32))), (.int (nar .char (116 : Int32))), (.int (0 : Int32))] (.int (0 : Int32)) := Arv.set A270 q270 S270 M270 H270 U270 (fits_nar_char _) W271 4 rfl (Nat.le_of_ble_eq_true rfl)
      have N276 := Fr.snoc X271 N269 ge236
      refine own_back st271 ?_
      show OwnGo p e below (T271.setTop (mkF m 38 #[.val (.int x0), .val (.int x1), .val (.int x2)] [(.ref b235)])) _
      refine own_back (fun t k => XS.dup X271.here hx rfl (hb hby wd_d38) rfl rfl k) ?_
      show OwnGo p e below (T271.setTop (mkF m 39 #[.val (.int x0), .val (.int x1), .val (.int x2)] [(.ref b235), (.ref b235)])) _
      refine own_back (fun t k => XS.iconst X271.here hx rfl (hb hby wd_d39) k) ?_
      show OwnGo p e below (T271.setTop (mkF m 40 #[.val (.int x0), .val (.int x1), .val (.int x2)] [(.int (5 : Int32)), (.ref b235), (.ref b235)])) _
      refine own_back (fun t k => XS.iloadN X271.here hx rfl (hb hby wd_d40) rfl k) ?_
      show OwnGo p e below (T271.setTop (mkF m 41 #[.val (.int x0), .val (.int x1), .val (.int x2)] [(.int x2), (.int (5 : Int32)), (.ref b235), (.ref b235)])) _
      obtain ⟨c277, A277, q277, S277, M277, H277, U277⟩ := id V275
      obtain ⟨T278, h278, X278, e278, W278, st278⟩ := stC X271 hx hZ e271 A277 (j := (5 : Int32)) (inb_of S277 ⟨by decide, by decide⟩) (g := (mkF m 41 #[.val (.int x0), .val (.int x1), .val (.int x2)] [(.int x2), (.int (5 : Int32)), (.ref b235), (.ref b235)])) rfl rfl (hb hby wd_d41)
      have O279 := O272.wr W278 ge236
      have KP280 := KP273.wr W278 (Or.inr sz237)
      have Zs281 := Nat.le_trans Zs274 (Keep.of_wr W278).1
      have V282 : Arv Z h278 b235 k235 .char (6 : Int32) [(.int (nar .char (115 : Int32))), (.int (nar .char (112 : Int32))), (.int (nar .char (108 : Int32))), (.int (nar .char (105 : Int32))), (.int (nar .char (116 : Int32))), (.int (nar .char x2))] (.int (0 : Int32)) := Arv.set A277 q277 S277 M277 H277 U277 (fits_nar_char _) W278 5 rfl (Nat.le_of_ble_eq_true rfl)
      have N283 := Fr.snoc X278 N276 ge236
      refine own_back st278 ?_
      show OwnGo p e below (T278.setTop (mkF m 42 #[.val (.int x0), .val (.int x1), .val (.int x2)] [(.ref b235)])) _
      refine own_retA X278 hx Bd.notSynchronized Bd.returns rfl rfl (hb hby wd_d42) e278 (Nat.le_of_ble_eq_true rfl) (Nat.le_of_ble_eq_true rfl) ?_
      exact ⟨b235, _, [(nar .char (115 : Int32)), (nar .char (112 : Int32)), (nar .char (108 : Int32)), (nar .char (105 : Int32)), (nar .char (116 : Int32)), (nar .char x2)], rfl, N283, own_ext KP280, V282, sz237, (own_allS (OwnCh.of (by decide)) (own_allS (OwnCh.of (by decide)) (own_allS (OwnCh.of (by decide)) (own_allS (OwnCh.of (by decide)) (own_allS (OwnCh.of (by decide)) (own_allS (own_hpn hx2) own_all0)))))), Nat.le_of_ble_eq_true rfl, Nat.le_of_ble_eq_true rfl⟩
    · refine own_back (fun t k => XS.icmpYes X0.here hx rfl (pc0 := 6) (pc' := 43) rfl (hb hby wd_d6) rfl (Jvm.Free.XT.ii_ne_t hc6_234) (by decide) (by decide) k) ?_
      show OwnGo p e below (s₁.setTop (mkF m 43 #[.val (.int x0), .val (.int x1), .val (.int x2)] [])) _
      refine own_back (fun t k => XS.iloadN X0.here hx rfl (hb hby wd_d43) rfl k) ?_
      show OwnGo p e below (s₁.setTop (mkF m 44 #[.val (.int x0), .val (.int x1), .val (.int x2)] [(.int x1)])) _
      refine own_back (fun t k => XS.iconst X0.here hx rfl (hb hby wd_d44) k) ?_
      show OwnGo p e below (s₁.setTop (mkF m 45 #[.val (.int x0), .val (.int x1), .val (.int x2)] [(.int (2 : Int32)), (.int x1)])) _
      by_cases hc45_284 : x1 = (2 : Int32)
      · refine own_back (fun t k => XS.icmpNo X0.here hx rfl (hb hby wd_d45) rfl (Jvm.Free.XT.ii_ne_f hc45_284) k) ?_
        show OwnGo p e below (s₁.setTop (mkF m 48 #[.val (.int x0), .val (.int x1), .val (.int x2)] [])) _
        refine own_back (fun t k => XS.iconst X0.here hx rfl (hb hby wd_d48) k) ?_
        show OwnGo p e below (s₁.setTop (mkF m 49 #[.val (.int x0), .val (.int x1), .val (.int x2)] [(.int (4 : Int32))])) _
        obtain ⟨T285, h285, k285, X285, e285, E285, A285, st285⟩ := newP X0 hx hZ (hw _ (List.mem_of_getElem? (i := 5) rfl)) e0 (g := (mkF m 49 #[.val (.int x0), .val (.int x1), .val (.int x2)] [(.int (4 : Int32))])) rfl (hb hby wd_d49) rfl (by decide) (cap := 4) (by decide) (by decide) (Nat.le_of_ble_eq_true rfl) (Nat.le_of_ble_eq_true rfl)
        obtain ⟨b285, g285⟩ : ∃ z, z = h0.size := ⟨_, rfl⟩
        have ge286 : n0 ≤ b285 := Nat.le_trans Z0 (Nat.le_of_eq g285.symm)
        have sz287 : h0.size ≤ b285 := Nat.le_trans KP0.1 (Nat.le_of_eq g285.symm)
        rw [← g285] at A285 st285
        have O288 := OL.ext E285
        have KP289 := KP0.ext E285
        have Zs290 := Nat.le_trans Z0 E285.1
        have V291 : Arv Z h285 b285 k285 .char (4 : Int32) [(.int (0 : Int32)), (.int (0 : Int32)), (.int (0 : Int32)), (.int (0 : Int32))] (.int (0 : Int32)) := (Arv.new A285 (by decide)).pad (pad_rep [] (.int (0 : Int32)) 4)
        refine own_back st285 ?_
        show OwnGo p e below (T285.setTop (mkF m 51 #[.val (.int x0), .val (.int x1), .val (.int x2)] [(.ref b285)])) _
        refine own_back (fun t k => XS.dup X285.here hx rfl (hb hby wd_d51) rfl rfl k) ?_
        show OwnGo p e below (T285.setTop (mkF m 52 #[.val (.int x0), .val (.int x1), .val (.int x2)] [(.ref b285), (.ref b285)])) _
        refine own_back (fun t k => XS.iconst X285.here hx rfl (hb hby wd_d52) k) ?_
        show OwnGo p e below (T285.setTop (mkF m 53 #[.val (.int x0), .val (.int x1), .val (.int x2)] [(.int (0 : Int32)), (.ref b285), (.ref b285)])) _
        refine own_back (fun t k => XS.bipush X285.here hx rfl (hb hby wd_d53) k) ?_
        show OwnGo p e below (T285.setTop (mkF m 55 #[.val (.int x0), .val (.int x1), .val (.int x2)] [(.int (115 : Int32)), (.int (0 : Int32)), (.ref b285), (.ref b285)])) _
        obtain ⟨c292, A292, q292, S292, M292, H292, U292⟩ := id V291
        obtain ⟨T293, h293, X293, e293, W293, st293⟩ := stC X285 hx hZ e285 A292 (j := (0 : Int32)) (inb_of S292 ⟨by decide, by decide⟩) (g := (mkF m 55 #[.val (.int x0), .val (.int x1), .val (.int x2)] [(.int (115 : Int32)), (.int (0 : Int32)), (.ref b285), (.ref b285)])) rfl rfl (hb hby wd_d55)
        have O294 := O288.wr W293 ge286
        have KP295 := KP289.wr W293 (Or.inr sz287)
        have Zs296 := Nat.le_trans Zs290 (Keep.of_wr W293).1
        have V297 : Arv Z h293 b285 k285 .char (4 : Int32) [(.int (nar .char (115 : Int32))), (.int (0 : Int32)), (.int (0 : Int32)), (.int (0 : Int32))] (.int (0 : Int32)) := Arv.set A292 q292 S292 M292 H292 U292 (fits_nar_char _) W293 0 rfl (Nat.le_of_ble_eq_true rfl)
        have N298 := Fr.snoc X293 N0 ge286
        refine own_back st293 ?_
        show OwnGo p e below (T293.setTop (mkF m 56 #[.val (.int x0), .val (.int x1), .val (.int x2)] [(.ref b285)])) _
        refine own_back (fun t k => XS.dup X293.here hx rfl (hb hby wd_d56) rfl rfl k) ?_
        show OwnGo p e below (T293.setTop (mkF m 57 #[.val (.int x0), .val (.int x1), .val (.int x2)] [(.ref b285), (.ref b285)])) _
        refine own_back (fun t k => XS.iconst X293.here hx rfl (hb hby wd_d57) k) ?_
        show OwnGo p e below (T293.setTop (mkF m 58 #[.val (.int x0), .val (.int x1), .val (.int x2)] [(.int (1 : Int32)), (.ref b285), (.ref b285)])) _
        refine own_back (fun t k => XS.bipush X293.here hx rfl (hb hby wd_d58) k) ?_
        show OwnGo p e below (T293.setTop (mkF m 60 #[.val (.int x0), .val (.int x1), .val (.int x2)] [(.int (112 : Int32)), (.int (1 : Int32)), (.ref b285), (.ref b285)])) _
        obtain ⟨c299, A299, q299, S299, M299, H299, U299⟩ := id V297
        obtain ⟨T300, h300, X300, e300, W300, st300⟩ := stC X293 hx hZ e293 A299 (j := (1 : Int32)) (inb_of S299 ⟨by decide, by decide⟩) (g := (mkF m 60 #[.val (.int x0), .val (.int x1), .val (.int x2)] [(.int (112 : Int32)), (.int (1 : Int32)), (.ref b285), (.ref b285)])) rfl rfl (hb hby wd_d60)
        have O301 := O294.wr W300 ge286
        have KP302 := KP295.wr W300 (Or.inr sz287)
        have Zs303 := Nat.le_trans Zs296 (Keep.of_wr W300).1
        have V304 : Arv Z h300 b285 k285 .char (4 : Int32) [(.int (nar .char (115 : Int32))), (.int (nar .char (112 : Int32))), (.int (0 : Int32)), (.int (0 : Int32))] (.int (0 : Int32)) := Arv.set A299 q299 S299 M299 H299 U299 (fits_nar_char _) W300 1 rfl (Nat.le_of_ble_eq_true rfl)
        have N305 := Fr.snoc X300 N298 ge286
        refine own_back st300 ?_
        show OwnGo p e below (T300.setTop (mkF m 61 #[.val (.int x0), .val (.int x1), .val (.int x2)] [(.ref b285)])) _
        refine own_back (fun t k => XS.dup X300.here hx rfl (hb hby wd_d61) rfl rfl k) ?_
        show OwnGo p e below (T300.setTop (mkF m 62 #[.val (.int x0), .val (.int x1), .val (.int x2)] [(.ref b285), (.ref b285)])) _
        refine own_back (fun t k => XS.iconst X300.here hx rfl (hb hby wd_d62) k) ?_
        show OwnGo p e below (T300.setTop (mkF m 63 #[.val (.int x0), .val (.int x1), .val (.int x2)] [(.int (2 : Int32)), (.ref b285), (.ref b285)])) _
        refine own_back (fun t k => XS.bipush X300.here hx rfl (hb hby wd_d63) k) ?_
        show OwnGo p e below (T300.setTop (mkF m 65 #[.val (.int x0), .val (.int x1), .val (.int x2)] [(.int (108 : Int32)), (.int (2 : Int32)), (.ref b285), (.ref b285)])) _
        obtain ⟨c306, A306, q306, S306, M306, H306, U306⟩ := id V304
        obtain ⟨T307, h307, X307, e307, W307, st307⟩ := stC X300 hx hZ e300 A306 (j := (2 : Int32)) (inb_of S306 ⟨by decide, by decide⟩) (g := (mkF m 65 #[.val (.int x0), .val (.int x1), .val (.int x2)] [(.int (108 : Int32)), (.int (2 : Int32)), (.ref b285), (.ref b285)])) rfl rfl (hb hby wd_d65)
        have O308 := O301.wr W307 ge286
        have KP309 := KP302.wr W307 (Or.inr sz287)
        have Zs310 := Nat.le_trans Zs303 (Keep.of_wr W307).1
        have V311 : Arv Z h307 b285 k285 .char (4 : Int32) [(.int (nar .char (115 : Int32))), (.int (nar .char (112 : Int32))), (.int (nar .char (108 : Int32))), (.int (0 : Int32))] (.int (0 : Int32)) := Arv.set A306 q306 S306 M306 H306 U306 (fits_nar_char _) W307 2 rfl (Nat.le_of_ble_eq_true rfl)
        have N312 := Fr.snoc X307 N305 ge286
        refine own_back st307 ?_
        show OwnGo p e below (T307.setTop (mkF m 66 #[.val (.int x0), .val (.int x1), .val (.int x2)] [(.ref b285)])) _
        refine own_back (fun t k => XS.dup X307.here hx rfl (hb hby wd_d66) rfl rfl k) ?_
        show OwnGo p e below (T307.setTop (mkF m 67 #[.val (.int x0), .val (.int x1), .val (.int x2)] [(.ref b285), (.ref b285)])) _
        refine own_back (fun t k => XS.iconst X307.here hx rfl (hb hby wd_d67) k) ?_
        show OwnGo p e below (T307.setTop (mkF m 68 #[.val (.int x0), .val (.int x1), .val (.int x2)] [(.int (3 : Int32)), (.ref b285), (.ref b285)])) _
        refine own_back (fun t k => XS.bipush X307.here hx rfl (hb hby wd_d68) k) ?_
        show OwnGo p e below (T307.setTop (mkF m 70 #[.val (.int x0), .val (.int x1), .val (.int x2)] [(.int (105 : Int32)), (.int (3 : Int32)), (.ref b285), (.ref b285)])) _
        obtain ⟨c313, A313, q313, S313, M313, H313, U313⟩ := id V311
        obtain ⟨T314, h314, X314, e314, W314, st314⟩ := stC X307 hx hZ e307 A313 (j := (3 : Int32)) (inb_of S313 ⟨by decide, by decide⟩) (g := (mkF m 70 #[.val (.int x0), .val (.int x1), .val (.int x2)] [(.int (105 : Int32)), (.int (3 : Int32)), (.ref b285), (.ref b285)])) rfl rfl (hb hby wd_d70)
        have O315 := O308.wr W314 ge286
        have KP316 := KP309.wr W314 (Or.inr sz287)
        have Zs317 := Nat.le_trans Zs310 (Keep.of_wr W314).1
        have V318 : Arv Z h314 b285 k285 .char (4 : Int32) [(.int (nar .char (115 : Int32))), (.int (nar .char (112 : Int32))), (.int (nar .char (108 : Int32))), (.int (nar .char (105 : Int32)))] (.int (0 : Int32)) := Arv.set A313 q313 S313 M313 H313 U313 (fits_nar_char _) W314 3 rfl (Nat.le_of_ble_eq_true rfl)
        have N319 := Fr.snoc X314 N312 ge286
        refine own_back st314 ?_
        show OwnGo p e below (T314.setTop (mkF m 71 #[.val (.int x0), .val (.int x1), .val (.int x2)] [(.ref b285)])) _
        refine own_retA X314 hx Bd.notSynchronized Bd.returns rfl rfl (hb hby wd_d71) e314 (Nat.le_of_ble_eq_true rfl) (Nat.le_of_ble_eq_true rfl) ?_
        exact ⟨b285, _, [(nar .char (115 : Int32)), (nar .char (112 : Int32)), (nar .char (108 : Int32)), (nar .char (105 : Int32))], rfl, N319, own_ext KP316, V318, sz287, (own_allS (OwnCh.of (by decide)) (own_allS (OwnCh.of (by decide)) (own_allS (OwnCh.of (by decide)) (own_allS (OwnCh.of (by decide)) own_all0)))), Nat.le_of_ble_eq_true rfl, Nat.le_of_ble_eq_true rfl⟩
      · refine own_back (fun t k => XS.icmpYes X0.here hx rfl (pc0 := 45) (pc' := 72) rfl (hb hby wd_d45) rfl (Jvm.Free.XT.ii_ne_t hc45_284) (by decide) (by decide) k) ?_
        show OwnGo p e below (s₁.setTop (mkF m 72 #[.val (.int x0), .val (.int x1), .val (.int x2)] [])) _
        refine own_back (fun t k => XS.iconst X0.here hx rfl (hb hby wd_d72) k) ?_
        show OwnGo p e below (s₁.setTop (mkF m 73 #[.val (.int x0), .val (.int x1), .val (.int x2)] [(.int (5 : Int32))])) _
        obtain ⟨T320, h320, k320, X320, e320, E320, A320, st320⟩ := newP X0 hx hZ (hw _ (List.mem_of_getElem? (i := 5) rfl)) e0 (g := (mkF m 73 #[.val (.int x0), .val (.int x1), .val (.int x2)] [(.int (5 : Int32))])) rfl (hb hby wd_d73) rfl (by decide) (cap := 5) (by decide) (by decide) (Nat.le_of_ble_eq_true rfl) (Nat.le_of_ble_eq_true rfl)
        obtain ⟨b320, g320⟩ : ∃ z, z = h0.size := ⟨_, rfl⟩
        have ge321 : n0 ≤ b320 := Nat.le_trans Z0 (Nat.le_of_eq g320.symm)
        have sz322 : h0.size ≤ b320 := Nat.le_trans KP0.1 (Nat.le_of_eq g320.symm)
        rw [← g320] at A320 st320
        have O323 := OL.ext E320
        have KP324 := KP0.ext E320
        have Zs325 := Nat.le_trans Z0 E320.1
        have V326 : Arv Z h320 b320 k320 .char (5 : Int32) [(.int (0 : Int32)), (.int (0 : Int32)), (.int (0 : Int32)), (.int (0 : Int32)), (.int (0 : Int32))] (.int (0 : Int32)) := (Arv.new A320 (by decide)).pad (pad_rep [] (.int (0 : Int32)) 5)
        refine own_back st320 ?_
        show OwnGo p e below (T320.setTop (mkF m 75 #[.val (.int x0), .val (.int x1), .val (.int x2)] [(.ref b320)])) _
        refine own_back (fun t k => XS.dup X320.here hx rfl (hb hby wd_d75) rfl rfl k) ?_
        show OwnGo p e below (T320.setTop (mkF m 76 #[.val (.int x0), .val (.int x1), .val (.int x2)] [(.ref b320), (.ref b320)])) _
        refine own_back (fun t k => XS.iconst X320.here hx rfl (hb hby wd_d76) k) ?_
        show OwnGo p e below (T320.setTop (mkF m 77 #[.val (.int x0), .val (.int x1), .val (.int x2)] [(.int (0 : Int32)), (.ref b320), (.ref b320)])) _
        refine own_back (fun t k => XS.bipush X320.here hx rfl (hb hby wd_d77) k) ?_
        show OwnGo p e below (T320.setTop (mkF m 79 #[.val (.int x0), .val (.int x1), .val (.int x2)] [(.int (115 : Int32)), (.int (0 : Int32)), (.ref b320), (.ref b320)])) _
        obtain ⟨c327, A327, q327, S327, M327, H327, U327⟩ := id V326
        obtain ⟨T328, h328, X328, e328, W328, st328⟩ := stC X320 hx hZ e320 A327 (j := (0 : Int32)) (inb_of S327 ⟨by decide, by decide⟩) (g := (mkF m 79 #[.val (.int x0), .val (.int x1), .val (.int x2)] [(.int (115 : Int32)), (.int (0 : Int32)), (.ref b320), (.ref b320)])) rfl rfl (hb hby wd_d79)
        have O329 := O323.wr W328 ge321
        have KP330 := KP324.wr W328 (Or.inr sz322)
        have Zs331 := Nat.le_trans Zs325 (Keep.of_wr W328).1
        have V332 : Arv Z h328 b320 k320 .char (5 : Int32) [(.int (nar .char (115 : Int32))), (.int (0 : Int32)), (.int (0 : Int32)), (.int (0 : Int32)), (.int (0 : Int32))] (.int (0 : Int32)) := Arv.set A327 q327 S327 M327 H327 U327 (fits_nar_char _) W328 0 rfl (Nat.le_of_ble_eq_true rfl)
        have N333 := Fr.snoc X328 N0 ge321
        refine own_back st328 ?_
        show OwnGo p e below (T328.setTop (mkF m 80 #[.val (.int x0), .val (.int x1), .val (.int x2)] [(.ref b320)])) _
        refine own_back (fun t k => XS.dup X328.here hx rfl (hb hby wd_d80) rfl rfl k) ?_
        show OwnGo p e below (T328.setTop (mkF m 81 #[.val (.int x0), .val (.int x1), .val (.int x2)] [(.ref b320), (.ref b320)])) _
        refine own_back (fun t k => XS.iconst X328.here hx rfl (hb hby wd_d81) k) ?_
        show OwnGo p e below (T328.setTop (mkF m 82 #[.val (.int x0), .val (.int x1), .val (.int x2)] [(.int (1 : Int32)), (.ref b320), (.ref b320)])) _
        refine own_back (fun t k => XS.bipush X328.here hx rfl (hb hby wd_d82) k) ?_
        show OwnGo p e below (T328.setTop (mkF m 84 #[.val (.int x0), .val (.int x1), .val (.int x2)] [(.int (112 : Int32)), (.int (1 : Int32)), (.ref b320), (.ref b320)])) _
        obtain ⟨c334, A334, q334, S334, M334, H334, U334⟩ := id V332
        obtain ⟨T335, h335, X335, e335, W335, st335⟩ := stC X328 hx hZ e328 A334 (j := (1 : Int32)) (inb_of S334 ⟨by decide, by decide⟩) (g := (mkF m 84 #[.val (.int x0), .val (.int x1), .val (.int x2)] [(.int (112 : Int32)), (.int (1 : Int32)), (.ref b320), (.ref b320)])) rfl rfl (hb hby wd_d84)
        have O336 := O329.wr W335 ge321
        have KP337 := KP330.wr W335 (Or.inr sz322)
        have Zs338 := Nat.le_trans Zs331 (Keep.of_wr W335).1
        have V339 : Arv Z h335 b320 k320 .char (5 : Int32) [(.int (nar .char (115 : Int32))), (.int (nar .char (112 : Int32))), (.int (0 : Int32)), (.int (0 : Int32)), (.int (0 : Int32))] (.int (0 : Int32)) := Arv.set A334 q334 S334 M334 H334 U334 (fits_nar_char _) W335 1 rfl (Nat.le_of_ble_eq_true rfl)
        have N340 := Fr.snoc X335 N333 ge321
        refine own_back st335 ?_
        show OwnGo p e below (T335.setTop (mkF m 85 #[.val (.int x0), .val (.int x1), .val (.int x2)] [(.ref b320)])) _
        refine own_back (fun t k => XS.dup X335.here hx rfl (hb hby wd_d85) rfl rfl k) ?_
        show OwnGo p e below (T335.setTop (mkF m 86 #[.val (.int x0), .val (.int x1), .val (.int x2)] [(.ref b320), (.ref b320)])) _
        refine own_back (fun t k => XS.iconst X335.here hx rfl (hb hby wd_d86) k) ?_
        show OwnGo p e below (T335.setTop (mkF m 87 #[.val (.int x0), .val (.int x1), .val (.int x2)] [(.int (2 : Int32)), (.ref b320), (.ref b320)])) _
        refine own_back (fun t k => XS.bipush X335.here hx rfl (hb hby wd_d87) k) ?_
        show OwnGo p e below (T335.setTop (mkF m 89 #[.val (.int x0), .val (.int x1), .val (.int x2)] [(.int (108 : Int32)), (.int (2 : Int32)), (.ref b320), (.ref b320)])) _
        obtain ⟨c341, A341, q341, S341, M341, H341, U341⟩ := id V339
        obtain ⟨T342, h342, X342, e342, W342, st342⟩ := stC X335 hx hZ e335 A341 (j := (2 : Int32)) (inb_of S341 ⟨by decide, by decide⟩) (g := (mkF m 89 #[.val (.int x0), .val (.int x1), .val (.int x2)] [(.int (108 : Int32)), (.int (2 : Int32)), (.ref b320), (.ref b320)])) rfl rfl (hb hby wd_d89)
        have O343 := O336.wr W342 ge321
        have KP344 := KP337.wr W342 (Or.inr sz322)
        have Zs345 := Nat.le_trans Zs338 (Keep.of_wr W342).1
        have V346 : Arv Z h342 b320 k320 .char (5 : Int32) [(.int (nar .char (115 : Int32))), (.int (nar .char (112 : Int32))), (.int (nar .char (108 : Int32))), (.int (0 : Int32)), (.int (0 : Int32))] (.int (0 : Int32)) := Arv.set A341 q341 S341 M341 H341 U341 (fits_nar_char _) W342 2 rfl (Nat.le_of_ble_eq_true rfl)
        have N347 := Fr.snoc X342 N340 ge321
        refine own_back st342 ?_
        show OwnGo p e below (T342.setTop (mkF m 90 #[.val (.int x0), .val (.int x1), .val (.int x2)] [(.ref b320)])) _
        refine own_back (fun t k => XS.dup X342.here hx rfl (hb hby wd_d90) rfl rfl k) ?_
        show OwnGo p e below (T342.setTop (mkF m 91 #[.val (.int x0), .val (.int x1), .val (.int x2)] [(.ref b320), (.ref b320)])) _
        refine own_back (fun t k => XS.iconst X342.here hx rfl (hb hby wd_d91) k) ?_
        show OwnGo p e below (T342.setTop (mkF m 92 #[.val (.int x0), .val (.int x1), .val (.int x2)] [(.int (3 : Int32)), (.ref b320), (.ref b320)])) _
        refine own_back (fun t k => XS.bipush X342.here hx rfl (hb hby wd_d92) k) ?_
        show OwnGo p e below (T342.setTop (mkF m 94 #[.val (.int x0), .val (.int x1), .val (.int x2)] [(.int (105 : Int32)), (.int (3 : Int32)), (.ref b320), (.ref b320)])) _
        obtain ⟨c348, A348, q348, S348, M348, H348, U348⟩ := id V346
        obtain ⟨T349, h349, X349, e349, W349, st349⟩ := stC X342 hx hZ e342 A348 (j := (3 : Int32)) (inb_of S348 ⟨by decide, by decide⟩) (g := (mkF m 94 #[.val (.int x0), .val (.int x1), .val (.int x2)] [(.int (105 : Int32)), (.int (3 : Int32)), (.ref b320), (.ref b320)])) rfl rfl (hb hby wd_d94)
        have O350 := O343.wr W349 ge321
        have KP351 := KP344.wr W349 (Or.inr sz322)
        have Zs352 := Nat.le_trans Zs345 (Keep.of_wr W349).1
        have V353 : Arv Z h349 b320 k320 .char (5 : Int32) [(.int (nar .char (115 : Int32))), (.int (nar .char (112 : Int32))), (.int (nar .char (108 : Int32))), (.int (nar .char (105 : Int32))), (.int (0 : Int32))] (.int (0 : Int32)) := Arv.set A348 q348 S348 M348 H348 U348 (fits_nar_char _) W349 3 rfl (Nat.le_of_ble_eq_true rfl)
        have N354 := Fr.snoc X349 N347 ge321
        refine own_back st349 ?_
        show OwnGo p e below (T349.setTop (mkF m 95 #[.val (.int x0), .val (.int x1), .val (.int x2)] [(.ref b320)])) _
        refine own_back (fun t k => XS.dup X349.here hx rfl (hb hby wd_d95) rfl rfl k) ?_
        show OwnGo p e below (T349.setTop (mkF m 96 #[.val (.int x0), .val (.int x1), .val (.int x2)] [(.ref b320), (.ref b320)])) _
        refine own_back (fun t k => XS.iconst X349.here hx rfl (hb hby wd_d96) k) ?_
        show OwnGo p e below (T349.setTop (mkF m 97 #[.val (.int x0), .val (.int x1), .val (.int x2)] [(.int (4 : Int32)), (.ref b320), (.ref b320)])) _
        refine own_back (fun t k => XS.bipush X349.here hx rfl (hb hby wd_d97) k) ?_
        show OwnGo p e below (T349.setTop (mkF m 99 #[.val (.int x0), .val (.int x1), .val (.int x2)] [(.int (116 : Int32)), (.int (4 : Int32)), (.ref b320), (.ref b320)])) _
        obtain ⟨c355, A355, q355, S355, M355, H355, U355⟩ := id V353
        obtain ⟨T356, h356, X356, e356, W356, st356⟩ := stC X349 hx hZ e349 A355 (j := (4 : Int32)) (inb_of S355 ⟨by decide, by decide⟩) (g := (mkF m 99 #[.val (.int x0), .val (.int x1), .val (.int x2)] [(.int (116 : Int32)), (.int (4 : Int32)), (.ref b320), (.ref b320)])) rfl rfl (hb hby wd_d99)
        have O357 := O350.wr W356 ge321
        have KP358 := KP351.wr W356 (Or.inr sz322)
        have Zs359 := Nat.le_trans Zs352 (Keep.of_wr W356).1
        have V360 : Arv Z h356 b320 k320 .char (5 : Int32) [(.int (nar .char (115 : Int32))), (.int (nar .char (112 : Int32))), (.int (nar .char (108 : Int32))), (.int (nar .char (105 : Int32))), (.int (nar .char (116 : Int32)))] (.int (0 : Int32)) := Arv.set A355 q355 S355 M355 H355 U355 (fits_nar_char _) W356 4 rfl (Nat.le_of_ble_eq_true rfl)
        have N361 := Fr.snoc X356 N354 ge321
        refine own_back st356 ?_
        show OwnGo p e below (T356.setTop (mkF m 100 #[.val (.int x0), .val (.int x1), .val (.int x2)] [(.ref b320)])) _
        refine own_retA X356 hx Bd.notSynchronized Bd.returns rfl rfl (hb hby wd_d100) e356 (Nat.le_of_ble_eq_true rfl) (Nat.le_of_ble_eq_true rfl) ?_
        exact ⟨b320, _, [(nar .char (115 : Int32)), (nar .char (112 : Int32)), (nar .char (108 : Int32)), (nar .char (105 : Int32)), (nar .char (116 : Int32))], rfl, N361, own_ext KP358, V360, sz322, (own_allS (OwnCh.of (by decide)) (own_allS (OwnCh.of (by decide)) (own_allS (OwnCh.of (by decide)) (own_allS (OwnCh.of (by decide)) (own_allS (OwnCh.of (by decide)) own_all0))))), Nat.le_of_ble_eq_true rfl, Nat.le_of_ble_eq_true rfl⟩
  · refine own_back (fun t k => XS.ifYes X0.here hx rfl (pc0 := 1) (pc' := 101) rfl (hb hby wd_d1) rfl (Jvm.Free.XT.i0_ne_t hc1_233) (by decide) (by decide) k) ?_
    show OwnGo p e below (s₁.setTop (mkF m 101 #[.val (.int x0), .val (.int x1), .val (.int x2)] [])) _
    refine own_back (fun t k => XS.iloadN X0.here hx rfl (hb hby wd_d101) rfl k) ?_
    show OwnGo p e below (s₁.setTop (mkF m 102 #[.val (.int x0), .val (.int x1), .val (.int x2)] [(.int x0)])) _
    refine own_back (fun t k => XS.iconst X0.here hx rfl (hb hby wd_d102) k) ?_
    show OwnGo p e below (s₁.setTop (mkF m 103 #[.val (.int x0), .val (.int x1), .val (.int x2)] [(.int (1 : Int32)), (.int x0)])) _
    by_cases hc103_362 : x0 = (1 : Int32)
    · refine own_back (fun t k => XS.icmpNo X0.here hx rfl (hb hby wd_d103) rfl (Jvm.Free.XT.ii_ne_f hc103_362) k) ?_
      show OwnGo p e below (s₁.setTop (mkF m 106 #[.val (.int x0), .val (.int x1), .val (.int x2)] [])) _
      refine own_back (fun t k => XS.iloadN X0.here hx rfl (hb hby wd_d106) rfl k) ?_
      show OwnGo p e below (s₁.setTop (mkF m 107 #[.val (.int x0), .val (.int x1), .val (.int x2)] [(.int x1)])) _
      refine own_back (fun t k => XS.iconst X0.here hx rfl (hb hby wd_d107) k) ?_
      show OwnGo p e below (s₁.setTop (mkF m 108 #[.val (.int x0), .val (.int x1), .val (.int x2)] [(.int (1 : Int32)), (.int x1)])) _
      by_cases hc108_363 : x1 = (1 : Int32)
      · refine own_back (fun t k => XS.icmpNo X0.here hx rfl (hb hby wd_d108) rfl (Jvm.Free.XT.ii_ne_f hc108_363) k) ?_
        show OwnGo p e below (s₁.setTop (mkF m 111 #[.val (.int x0), .val (.int x1), .val (.int x2)] [])) _
        refine own_back (fun t k => XS.bipush X0.here hx rfl (hb hby wd_d111) k) ?_
        show OwnGo p e below (s₁.setTop (mkF m 113 #[.val (.int x0), .val (.int x1), .val (.int x2)] [(.int (19 : Int32))])) _
        obtain ⟨T364, h364, k364, X364, e364, E364, A364, st364⟩ := newP X0 hx hZ (hw _ (List.mem_of_getElem? (i := 5) rfl)) e0 (g := (mkF m 113 #[.val (.int x0), .val (.int x1), .val (.int x2)] [(.int (19 : Int32))])) rfl (hb hby wd_d113) rfl (by decide) (cap := 19) (by decide) (by decide) (Nat.le_of_ble_eq_true rfl) (Nat.le_of_ble_eq_true rfl)
        obtain ⟨b364, g364⟩ : ∃ z, z = h0.size := ⟨_, rfl⟩
        have ge365 : n0 ≤ b364 := Nat.le_trans Z0 (Nat.le_of_eq g364.symm)
        have sz366 : h0.size ≤ b364 := Nat.le_trans KP0.1 (Nat.le_of_eq g364.symm)
        rw [← g364] at A364 st364
        have O367 := OL.ext E364
        have KP368 := KP0.ext E364
        have Zs369 := Nat.le_trans Z0 E364.1
        have V370 : Arv Z h364 b364 k364 .char (19 : Int32) [(.int (0 : Int32)), (.int (0 : Int32)), (.int (0 : Int32)), (.int (0 : Int32)), (.int (0 : Int32)), (.int (0 : Int32)), (.int (0 : Int32)), (.int (0 : Int32)), (.int (0 : Int32)), (.int (0 : Int32)), (.int (0 : Int32)), (.int (0 : Int32)), (.int (0 : Int32)), (.int (0 : Int32)), (.int (0 : Int32)), (.int (0 : Int32)), (.int (0 : Int32)), (.int (0 : Int32)), (.int (0 : Int32))] (.int (0 : Int32)) := (Arv.new A364 (by decide)).pad (pad_rep [] (.int (0 : Int32)) 19)
        refine own_back st364 ?_
        show OwnGo p e below (T364.setTop (mkF m 115 #[.val (.int x0), .val (.int x1), .val (.int x2)] [(.ref b364)])) _
        refine own_back (fun t k => XS.dup X364.here hx rfl (hb hby wd_d115) rfl rfl k) ?_
        show OwnGo p e below (T364.setTop (mkF m 116 #[.val (.int x0), .val (.int x1), .val (.int x2)] [(.ref b364), (.ref b364)])) _
        refine own_back (fun t k => XS.iconst X364.here hx rfl (hb hby wd_d116) k) ?_
        show OwnGo p e below (T364.setTop (mkF m 117 #[.val (.int x0), .val (.int x1), .val (.int x2)] [(.int (0 : Int32)), (.ref b364), (.ref b364)])) _
        refine own_back (fun t k => XS.bipush X364.here hx rfl (hb hby wd_d117) k) ?_
        show OwnGo p e below (T364.setTop (mkF m 119 #[.val (.int x0), .val (.int x1), .val (.int x2)] [(.int (115 : Int32)), (.int (0 : Int32)), (.ref b364), (.ref b364)])) _
        obtain ⟨c371, A371, q371, S371, M371, H371, U371⟩ := id V370
        obtain ⟨T372, h372, X372, e372, W372, st372⟩ := stC X364 hx hZ e364 A371 (j := (0 : Int32)) (inb_of S371 ⟨by decide, by decide⟩) (g := (mkF m 119 #[.val (.int x0), .val (.int x1), .val (.int x2)] [(.int (115 : Int32)), (.int (0 : Int32)), (.ref b364), (.ref b364)])) rfl rfl (hb hby wd_d119)
        have O373 := O367.wr W372 ge365
        have KP374 := KP368.wr W372 (Or.inr sz366)
        have Zs375 := Nat.le_trans Zs369 (Keep.of_wr W372).1
        have V376 : Arv Z h372 b364 k364 .char (19 : Int32) [(.int (nar .char (115 : Int32))), (.int (0 : Int32)), (.int (0 : Int32)), (.int (0 : Int32)), (.int (0 : Int32)), (.int (0 : Int32)), (.int (0 : Int32)), (.int (0 : Int32)), (.int (0 : Int32)), (.int (0 : Int32)), (.int (0 : Int32)), (.int (0 : Int32)), (.int (0 : Int32)), (.int (0 : Int32)), (.int (0 : Int32)), (.int (0 : Int32)), (.int (0 : Int32)), (.int (0 : Int32)), (.int (0 : Int32))] (.int (0 : Int32)) := Arv.set A371 q371 S371 M371 H371 U371 (fits_nar_char _) W372 0 rfl (Nat.le_of_ble_eq_true rfl)
        have N377 := Fr.snoc X372 N0 ge365
        refine own_back st372 ?_
        show OwnGo p e below (T372.setTop (mkF m 120 #[.val (.int x0), .val (.int x1), .val (.int x2)] [(.ref b364)])) _
        refine own_back (fun t k => XS.dup X372.here hx rfl (hb hby wd_d120) rfl rfl k) ?_
        show OwnGo p e below (T372.setTop (mkF m 121 #[.val (.int x0), .val (.int x1), .val (.int x2)] [(.ref b364), (.ref b364)])) _
        refine own_back (fun t k => XS.iconst X372.here hx rfl (hb hby wd_d121) k) ?_
        show OwnGo p e below (T372.setTop (mkF m 122 #[.val (.int x0), .val (.int x1), .val (.int x2)] [(.int (1 : Int32)), (.ref b364), (.ref b364)])) _
        refine own_back (fun t k => XS.bipush X372.here hx rfl (hb hby wd_d122) k) ?_
        show OwnGo p e below (T372.setTop (mkF m 124 #[.val (.int x0), .val (.int x1), .val (.int x2)] [(.int (116 : Int32)), (.int (1 : Int32)), (.ref b364), (.ref b364)])) _
        obtain ⟨c378, A378, q378, S378, M378, H378, U378⟩ := id V376
        obtain ⟨T379, h379, X379, e379, W379, st379⟩ := stC X372 hx hZ e372 A378 (j := (1 : Int32)) (inb_of S378 ⟨by decide, by decide⟩) (g := (mkF m 124 #[.val (.int x0), .val (.int x1), .val (.int x2)] [(.int (116 : Int32)), (.int (1 : Int32)), (.ref b364), (.ref b364)])) rfl rfl (hb hby wd_d124)
        have O380 := O373.wr W379 ge365
        have KP381 := KP374.wr W379 (Or.inr sz366)
        have Zs382 := Nat.le_trans Zs375 (Keep.of_wr W379).1
        have V383 : Arv Z h379 b364 k364 .char (19 : Int32) [(.int (nar .char (115 : Int32))), (.int (nar .char (116 : Int32))), (.int (0 : Int32)), (.int (0 : Int32)), (.int (0 : Int32)), (.int (0 : Int32)), (.int (0 : Int32)), (.int (0 : Int32)), (.int (0 : Int32)), (.int (0 : Int32)), (.int (0 : Int32)), (.int (0 : Int32)), (.int (0 : Int32)), (.int (0 : Int32)), (.int (0 : Int32)), (.int (0 : Int32)), (.int (0 : Int32)), (.int (0 : Int32)), (.int (0 : Int32))] (.int (0 : Int32)) := Arv.set A378 q378 S378 M378 H378 U378 (fits_nar_char _) W379 1 rfl (Nat.le_of_ble_eq_true rfl)
        have N384 := Fr.snoc X379 N377 ge365
        refine own_back st379 ?_
        show OwnGo p e below (T379.setTop (mkF m 125 #[.val (.int x0), .val (.int x1), .val (.int x2)] [(.ref b364)])) _
        refine own_back (fun t k => XS.dup X379.here hx rfl (hb hby wd_d125) rfl rfl k) ?_
        show OwnGo p e below (T379.setTop (mkF m 126 #[.val (.int x0), .val (.int x1), .val (.int x2)] [(.ref b364), (.ref b364)])) _
        refine own_back (fun t k => XS.iconst X379.here hx rfl (hb hby wd_d126) k) ?_
        show OwnGo p e below (T379.setTop (mkF m 127 #[.val (.int x0), .val (.int x1), .val (.int x2)] [(.int (2 : Int32)), (.ref b364), (.ref b364)])) _
        refine own_back (fun t k => XS.bipush X379.here hx rfl (hb hby wd_d127) k) ?_
        show OwnGo p e below (T379.setTop (mkF m 129 #[.val (.int x0), .val (.int x1), .val (.int x2)] [(.int (111 : Int32)), (.int (2 : Int32)), (.ref b364), (.ref b364)])) _
        obtain ⟨c385, A385, q385, S385, M385, H385, U385⟩ := id V383
        obtain ⟨T386, h386, X386, e386, W386, st386⟩ := stC X379 hx hZ e379 A385 (j := (2 : Int32)) (inb_of S385 ⟨by decide, by decide⟩) (g := (mkF m 129 #[.val (.int x0), .val (.int x1), .val (.int x2)] [(.int (111 : Int32)), (.int (2 : Int32)), (.ref b364), (.ref b364)])) rfl rfl (hb hby wd_d129)
        have O387 := O380.wr W386 ge365
        have KP388 := KP381.wr W386 (Or.inr sz366)
        have Zs389 := Nat.le_trans Zs382 (Keep.of_wr W386).1
        have V390 : Arv Z h386 b364 k364 .char (19 : Int32) [(.int (nar .char (115 : Int32))), (.int (nar .char (116 : Int32))), (.int (nar .char (111 : Int32))), (.int (0 : Int32)), (.int (0 : Int32)), (.int (0 : Int32)), (.int (0 : Int32)), (.int (0 : Int32)), (.int (0 : Int32)), (.int (0 : Int32)), (.int (0 : Int32)), (.int (0 : Int32)), (.int (0 : Int32)), (.int (0 : Int32)), (.int (0 : Int32)), (.int (0 : Int32)), (.int (0 : Int32)), (.int (0 : Int32)), (.int (0 : Int32))] (.int (0 : Int32)) := Arv.set A385 q385 S385 M385 H385 U385 (fits_nar_char _) W386 2 rfl (Nat.le_of_ble_eq_true rfl)
        have N391 := Fr.snoc X386 N384 ge365
        refine own_back st386 ?_
        show OwnGo p e below (T386.setTop (mkF m 130 #[.val (.int x0), .val (.int x1), .val (.int x2)] [(.ref b364)])) _
        refine own_back (fun t k => XS.dup X386.here hx rfl (hb hby wd_d130) rfl rfl k) ?_
        show OwnGo p e below (T386.setTop (mkF m 131 #[.val (.int x0), .val (.int x1), .val (.int x2)] [(.ref b364), (.ref b364)])) _
        refine own_back (fun t k => XS.iconst X386.here hx rfl (hb hby wd_d131) k) ?_
        show OwnGo p e below (T386.setTop (mkF m 132 #[.val (.int x0), .val (.int x1), .val (.int x2)] [(.int (3 : Int32)), (.ref b364), (.ref b364)])) _
        refine own_back (fun t k => XS.bipush X386.here hx rfl (hb hby wd_d132) k) ?_
        show OwnGo p e below (T386.setTop (mkF m 134 #[.val (.int x0), .val (.int x1), .val (.int x2)] [(.int (99 : Int32)), (.int (3 : Int32)), (.ref b364), (.ref b364)])) _
        obtain ⟨c392, A392, q392, S392, M392, H392, U392⟩ := id V390
        obtain ⟨T393, h393, X393, e393, W393, st393⟩ := stC X386 hx hZ e386 A392 (j := (3 : Int32)) (inb_of S392 ⟨by decide, by decide⟩) (g := (mkF m 134 #[.val (.int x0), .val (.int x1), .val (.int x2)] [(.int (99 : Int32)), (.int (3 : Int32)), (.ref b364), (.ref b364)])) rfl rfl (hb hby wd_d134)
        have O394 := O387.wr W393 ge365
        have KP395 := KP388.wr W393 (Or.inr sz366)
        have Zs396 := Nat.le_trans Zs389 (Keep.of_wr W393).1
        have V397 : Arv Z h393 b364 k364 .char (19 : Int32) [(.int (nar .char (115 : Int32))), (.int (nar .char (116 : Int32))), (.int (nar .char (111 : Int32))), (.int (nar .char (99 : Int32))), (.int (0 : Int32)), (.int (0 : Int32)), (.int (0 : Int32)), (.int (0 : Int32)), (.int (0 : Int32)), (.int (0 : Int32)), (.int (0 : Int32)), (.int (0 : Int32)), (.int (0 : Int32)), (.int (0 : Int32)), (.int (0 : Int32)), (.int (0 : Int32)), (.int (0 : Int32)), (.int (0 : Int32)), (.int (0 : Int32))] (.int (0 : Int32)) := Arv.set A392 q392 S392 M392 H392 U392 (fits_nar_char _) W393 3 rfl (Nat.le_of_ble_eq_true rfl)
        have N398 := Fr.snoc X393 N391 ge365
        refine own_back st393 ?_
        show OwnGo p e below (T393.setTop (mkF m 135 #[.val (.int x0), .val (.int x1), .val (.int x2)] [(.ref b364)])) _
        refine own_back (fun t k => XS.dup X393.here hx rfl (hb hby wd_d135) rfl rfl k) ?_
        show OwnGo p e below (T393.setTop (mkF m 136 #[.val (.int x0), .val (.int x1), .val (.int x2)] [(.ref b364), (.ref b364)])) _
        refine own_back (fun t k => XS.iconst X393.here hx rfl (hb hby wd_d136) k) ?_
        show OwnGo p e below (T393.setTop (mkF m 137 #[.val (.int x0), .val (.int x1), .val (.int x2)] [(.int (4 : Int32)), (.ref b364), (.ref b364)])) _
        refine own_back (fun t k => XS.bipush X393.here hx rfl (hb hby wd_d137) k) ?_
        show OwnGo p e below (T393.setTop (mkF m 139 #[.val (.int x0), .val (.int x1), .val (.int x2)] [(.int (107 : Int32)), (.int (4 : Int32)), (.ref b364), (.ref b364)])) _
        obtain ⟨c399, A399, q399, S399, M399, H399, U399⟩ := id V397
        obtain ⟨T400, h400, X400, e400, W400, st400⟩ := stC X393 hx hZ e393 A399 (j := (4 : Int32)) (inb_of S399 ⟨by decide, by decide⟩) (g := (mkF m 139 #[.val (.int x0), .val (.int x1), .val (.int x2)] [(.int (107 : Int32)), (.int (4 : Int32)), (.ref b364), (.ref b364)])) rfl rfl (hb hby wd_d139)
        have O401 := O394.wr W400 ge365
        have KP402 := KP395.wr W400 (Or.inr sz366)
        have Zs403 := Nat.le_trans Zs396 (Keep.of_wr W400).1
        have V404 : Arv Z h400 b364 k364 .char (19 : Int32) [(.int (nar .char (115 : Int32))), (.int (nar .char (116 : Int32))), (.int (nar .char (111 : Int32))), (.int (nar .char (99 : Int32))), (.int (nar .char (107 : Int32))), (.int (0 : Int32)), (.int (0 : Int32)), (.int (0 : Int32)), (.int (0 : Int32)), (.int (0 : Int32)), (.int (0 : Int32)), (.int (0 : Int32)), (.int (0 : Int32)), (.int (0 : Int32)), (.int (0 : Int32)), (.int (0 : Int32)), (.int (0 : Int32)), (.int (0 : Int32)), (.int (0 : Int32))] (.int (0 : Int32)) := Arv.set A399 q399 S399 M399 H399 U399 (fits_nar_char _) W400 4 rfl (Nat.le_of_ble_eq_true rfl)
        have N405 := Fr.snoc X400 N398 ge365
        refine own_back st400 ?_
        show OwnGo p e below (T400.setTop (mkF m 140 #[.val (.int x0), .val (.int x1), .val (.int x2)] [(.ref b364)])) _
        refine own_back (fun t k => XS.dup X400.here hx rfl (hb hby wd_d140) rfl rfl k) ?_
        show OwnGo p e below (T400.setTop (mkF m 141 #[.val (.int x0), .val (.int x1), .val (.int x2)] [(.ref b364), (.ref b364)])) _
        refine own_back (fun t k => XS.iconst X400.here hx rfl (hb hby wd_d141) k) ?_
        show OwnGo p e below (T400.setTop (mkF m 142 #[.val (.int x0), .val (.int x1), .val (.int x2)] [(.int (5 : Int32)), (.ref b364), (.ref b364)])) _
        refine own_back (fun t k => XS.bipush X400.here hx rfl (hb hby wd_d142) k) ?_
        show OwnGo p e below (T400.setTop (mkF m 144 #[.val (.int x0), .val (.int x1), .val (.int x2)] [(.int (45 : Int32)), (.int (5 : Int32)), (.ref b364), (.ref b364)])) _
        obtain ⟨c406, A406, q406, S406, M406, H406, U406⟩ := id V404
        obtain ⟨T407, h407, X407, e407, W407, st407⟩ := stC X400 hx hZ e400 A406 (j := (5 : Int32)) (inb_of S406 ⟨by decide, by decide⟩) (g := (mkF m 144 #[.val (.int x0), .val (.int x1), .val (.int x2)] [(.int (45 : Int32)), (.int (5 : Int32)), (.ref b364), (.ref b364)])) rfl rfl (hb hby wd_d144)
        have O408 := O401.wr W407 ge365
        have KP409 := KP402.wr W407 (Or.inr sz366)
        have Zs410 := Nat.le_trans Zs403 (Keep.of_wr W407).1
        have V411 : Arv Z h407 b364 k364 .char (19 : Int32) [(.int (nar .char (115 : Int32))), (.int (nar .char (116 : Int32))), (.int (nar .char (111 : Int32))), (.int (nar .char (99 : Int32))), (.int (nar .char (107 : Int32))), (.int (nar .char (45 : Int32))), (.int (0 : Int32)), (.int (0 : Int32)), (.int (0 : Int32)), (.int (0 : Int32)), (.int (0 : Int32)), (.int (0 : Int32)), (.int (0 : Int32)), (.int (0 : Int32)), (.int (0 : Int32)), (.int (0 : Int32)), (.int (0 : Int32)), (.int (0 : Int32)), (.int (0 : Int32))] (.int (0 : Int32)) := Arv.set A406 q406 S406 M406 H406 U406 (fits_nar_char _) W407 5 rfl (Nat.le_of_ble_eq_true rfl)
        have N412 := Fr.snoc X407 N405 ge365
        refine own_back st407 ?_
        show OwnGo p e below (T407.setTop (mkF m 145 #[.val (.int x0), .val (.int x1), .val (.int x2)] [(.ref b364)])) _
        refine own_back (fun t k => XS.dup X407.here hx rfl (hb hby wd_d145) rfl rfl k) ?_
        show OwnGo p e below (T407.setTop (mkF m 146 #[.val (.int x0), .val (.int x1), .val (.int x2)] [(.ref b364), (.ref b364)])) _
        refine own_back (fun t k => XS.bipush X407.here hx rfl (hb hby wd_d146) k) ?_
        show OwnGo p e below (T407.setTop (mkF m 148 #[.val (.int x0), .val (.int x1), .val (.int x2)] [(.int (6 : Int32)), (.ref b364), (.ref b364)])) _
        refine own_back (fun t k => XS.bipush X407.here hx rfl (hb hby wd_d148) k) ?_
        show OwnGo p e below (T407.setTop (mkF m 150 #[.val (.int x0), .val (.int x1), .val (.int x2)] [(.int (100 : Int32)), (.int (6 : Int32)), (.ref b364), (.ref b364)])) _
        obtain ⟨c413, A413, q413, S413, M413, H413, U413⟩ := id V411
        obtain ⟨T414, h414, X414, e414, W414, st414⟩ := stC X407 hx hZ e407 A413 (j := (6 : Int32)) (inb_of S413 ⟨by decide, by decide⟩) (g := (mkF m 150 #[.val (.int x0), .val (.int x1), .val (.int x2)] [(.int (100 : Int32)), (.int (6 : Int32)), (.ref b364), (.ref b364)])) rfl rfl (hb hby wd_d150)
        have O415 := O408.wr W414 ge365
        have KP416 := KP409.wr W414 (Or.inr sz366)
        have Zs417 := Nat.le_trans Zs410 (Keep.of_wr W414).1
        have V418 : Arv Z h414 b364 k364 .char (19 : Int32) [(.int (nar .char (115 : Int32))), (.int (nar .char (116 : Int32))), (.int (nar .char (111 : Int32))), (.int (nar .char (99 : Int32))), (.int (nar .char (107 : Int32))), (.int (nar .char (45 : Int32))), (.int (nar .char (100 : Int32))), (.int (0 : Int32)), (.int (0 : Int32)), (.int (0 : Int32)), (.int (0 : Int32)), (.int (0 : Int32)), (.int (0 : Int32)), (.int (0 : Int32)), (.int (0 : Int32)), (.int (0 : Int32)), (.int (0 : Int32)), (.int (0 : Int32)), (.int (0 : Int32))] (.int (0 : Int32)) := Arv.set A413 q413 S413 M413 H413 U413 (fits_nar_char _) W414 6 rfl (Nat.le_of_ble_eq_true rfl)
        have N419 := Fr.snoc X414 N412 ge365
        refine own_back st414 ?_
        show OwnGo p e below (T414.setTop (mkF m 151 #[.val (.int x0), .val (.int x1), .val (.int x2)] [(.ref b364)])) _
        refine own_back (fun t k => XS.dup X414.here hx rfl (hb hby wd_d151) rfl rfl k) ?_
        show OwnGo p e below (T414.setTop (mkF m 152 #[.val (.int x0), .val (.int x1), .val (.int x2)] [(.ref b364), (.ref b364)])) _
        refine own_back (fun t k => XS.bipush X414.here hx rfl (hb hby wd_d152) k) ?_
        show OwnGo p e below (T414.setTop (mkF m 154 #[.val (.int x0), .val (.int x1), .val (.int x2)] [(.int (7 : Int32)), (.ref b364), (.ref b364)])) _
        refine own_back (fun t k => XS.bipush X414.here hx rfl (hb hby wd_d154) k) ?_
        show OwnGo p e below (T414.setTop (mkF m 156 #[.val (.int x0), .val (.int x1), .val (.int x2)] [(.int (105 : Int32)), (.int (7 : Int32)), (.ref b364), (.ref b364)])) _
        obtain ⟨c420, A420, q420, S420, M420, H420, U420⟩ := id V418
        obtain ⟨T421, h421, X421, e421, W421, st421⟩ := stC X414 hx hZ e414 A420 (j := (7 : Int32)) (inb_of S420 ⟨by decide, by decide⟩) (g := (mkF m 156 #[.val (.int x0), .val (.int x1), .val (.int x2)] [(.int (105 : Int32)), (.int (7 : Int32)), (.ref b364), (.ref b364)])) rfl rfl (hb hby wd_d156)
        have O422 := O415.wr W421 ge365
        have KP423 := KP416.wr W421 (Or.inr sz366)
        have Zs424 := Nat.le_trans Zs417 (Keep.of_wr W421).1
        have V425 : Arv Z h421 b364 k364 .char (19 : Int32) [(.int (nar .char (115 : Int32))), (.int (nar .char (116 : Int32))), (.int (nar .char (111 : Int32))), (.int (nar .char (99 : Int32))), (.int (nar .char (107 : Int32))), (.int (nar .char (45 : Int32))), (.int (nar .char (100 : Int32))), (.int (nar .char (105 : Int32))), (.int (0 : Int32)), (.int (0 : Int32)), (.int (0 : Int32)), (.int (0 : Int32)), (.int (0 : Int32)), (.int (0 : Int32)), (.int (0 : Int32)), (.int (0 : Int32)), (.int (0 : Int32)), (.int (0 : Int32)), (.int (0 : Int32))] (.int (0 : Int32)) := Arv.set A420 q420 S420 M420 H420 U420 (fits_nar_char _) W421 7 rfl (Nat.le_of_ble_eq_true rfl)
        have N426 := Fr.snoc X421 N419 ge365
        refine own_back st421 ?_
        show OwnGo p e below (T421.setTop (mkF m 157 #[.val (.int x0), .val (.int x1), .val (.int x2)] [(.ref b364)])) _
        refine own_back (fun t k => XS.dup X421.here hx rfl (hb hby wd_d157) rfl rfl k) ?_
        show OwnGo p e below (T421.setTop (mkF m 158 #[.val (.int x0), .val (.int x1), .val (.int x2)] [(.ref b364), (.ref b364)])) _
        refine own_back (fun t k => XS.bipush X421.here hx rfl (hb hby wd_d158) k) ?_
        show OwnGo p e below (T421.setTop (mkF m 160 #[.val (.int x0), .val (.int x1), .val (.int x2)] [(.int (8 : Int32)), (.ref b364), (.ref b364)])) _
        refine own_back (fun t k => XS.bipush X421.here hx rfl (hb hby wd_d160) k) ?_
        show OwnGo p e below (T421.setTop (mkF m 162 #[.val (.int x0), .val (.int x1), .val (.int x2)] [(.int (115 : Int32)), (.int (8 : Int32)), (.ref b364), (.ref b364)])) _
        obtain ⟨c427, A427, q427, S427, M427, H427, U427⟩ := id V425
        obtain ⟨T428, h428, X428, e428, W428, st428⟩ := stC X421 hx hZ e421 A427 (j := (8 : Int32)) (inb_of S427 ⟨by decide, by decide⟩) (g := (mkF m 162 #[.val (.int x0), .val (.int x1), .val (.int x2)] [(.int (115 : Int32)), (.int (8 : Int32)), (.ref b364), (.ref b364)])) rfl rfl (hb hby wd_d162)
        have O429 := O422.wr W428 ge365
        have KP430 := KP423.wr W428 (Or.inr sz366)
        have Zs431 := Nat.le_trans Zs424 (Keep.of_wr W428).1
        have V432 : Arv Z h428 b364 k364 .char (19 : Int32) [(.int (nar .char (115 : Int32))), (.int (nar .char (116 : Int32))), (.int (nar .char (111 : Int32))), (.int (nar .char (99 : Int32))), (.int (nar .char (107 : Int32))), (.int (nar .char (45 : Int32))), (.int (nar .char (100 : Int32))), (.int (nar .char (105 : Int32))), (.int (nar .char (115 : Int32))), (.int (0 : Int32)), (.int (0 : Int32)), (.int (0 : Int32)), (.int (0 : Int32)), (.int (0 : Int32)), (.int (0 : Int32)), (.int (0 : Int32)), (.int (0 : Int32)), (.int (0 : Int32)), (.int (0 : Int32))] (.int (0 : Int32)) := Arv.set A427 q427 S427 M427 H427 U427 (fits_nar_char _) W428 8 rfl (Nat.le_of_ble_eq_true rfl)
        have N433 := Fr.snoc X428 N426 ge365
        refine own_back st428 ?_
        show OwnGo p e below (T428.setTop (mkF m 163 #[.val (.int x0), .val (.int x1), .val (.int x2)] [(.ref b364)])) _
        refine own_back (fun t k => XS.dup X428.here hx rfl (hb hby wd_d163) rfl rfl k) ?_
        show OwnGo p e below (T428.setTop (mkF m 164 #[.val (.int x0), .val (.int x1), .val (.int x2)] [(.ref b364), (.ref b364)])) _
        refine own_back (fun t k => XS.bipush X428.here hx rfl (hb hby wd_d164) k) ?_
        show OwnGo p e below (T428.setTop (mkF m 166 #[.val (.int x0), .val (.int x1), .val (.int x2)] [(.int (9 : Int32)), (.ref b364), (.ref b364)])) _
        refine own_back (fun t k => XS.bipush X428.here hx rfl (hb hby wd_d166) k) ?_
        show OwnGo p e below (T428.setTop (mkF m 168 #[.val (.int x0), .val (.int x1), .val (.int x2)] [(.int (116 : Int32)), (.int (9 : Int32)), (.ref b364), (.ref b364)])) _
        obtain ⟨c434, A434, q434, S434, M434, H434, U434⟩ := id V432
        obtain ⟨T435, h435, X435, e435, W435, st435⟩ := stC X428 hx hZ e428 A434 (j := (9 : Int32)) (inb_of S434 ⟨by decide, by decide⟩) (g := (mkF m 168 #[.val (.int x0), .val (.int x1), .val (.int x2)] [(.int (116 : Int32)), (.int (9 : Int32)), (.ref b364), (.ref b364)])) rfl rfl (hb hby wd_d168)
        have O436 := O429.wr W435 ge365
        have KP437 := KP430.wr W435 (Or.inr sz366)
        have Zs438 := Nat.le_trans Zs431 (Keep.of_wr W435).1
        have V439 : Arv Z h435 b364 k364 .char (19 : Int32) [(.int (nar .char (115 : Int32))), (.int (nar .char (116 : Int32))), (.int (nar .char (111 : Int32))), (.int (nar .char (99 : Int32))), (.int (nar .char (107 : Int32))), (.int (nar .char (45 : Int32))), (.int (nar .char (100 : Int32))), (.int (nar .char (105 : Int32))), (.int (nar .char (115 : Int32))), (.int (nar .char (116 : Int32))), (.int (0 : Int32)), (.int (0 : Int32)), (.int (0 : Int32)), (.int (0 : Int32)), (.int (0 : Int32)), (.int (0 : Int32)), (.int (0 : Int32)), (.int (0 : Int32)), (.int (0 : Int32))] (.int (0 : Int32)) := Arv.set A434 q434 S434 M434 H434 U434 (fits_nar_char _) W435 9 rfl (Nat.le_of_ble_eq_true rfl)
        have N440 := Fr.snoc X435 N433 ge365
        refine own_back st435 ?_
        show OwnGo p e below (T435.setTop (mkF m 169 #[.val (.int x0), .val (.int x1), .val (.int x2)] [(.ref b364)])) _
        refine own_back (fun t k => XS.dup X435.here hx rfl (hb hby wd_d169) rfl rfl k) ?_
        show OwnGo p e below (T435.setTop (mkF m 170 #[.val (.int x0), .val (.int x1), .val (.int x2)] [(.ref b364), (.ref b364)])) _
        refine own_back (fun t k => XS.bipush X435.here hx rfl (hb hby wd_d170) k) ?_
        show OwnGo p e below (T435.setTop (mkF m 172 #[.val (.int x0), .val (.int x1), .val (.int x2)] [(.int (10 : Int32)), (.ref b364), (.ref b364)])) _
        refine own_back (fun t k => XS.bipush X435.here hx rfl (hb hby wd_d172) k) ?_
        show OwnGo p e below (T435.setTop (mkF m 174 #[.val (.int x0), .val (.int x1), .val (.int x2)] [(.int (114 : Int32)), (.int (10 : Int32)), (.ref b364), (.ref b364)])) _
        obtain ⟨c441, A441, q441, S441, M441, H441, U441⟩ := id V439
        obtain ⟨T442, h442, X442, e442, W442, st442⟩ := stC X435 hx hZ e435 A441 (j := (10 : Int32)) (inb_of S441 ⟨by decide, by decide⟩) (g := (mkF m 174 #[.val (.int x0), .val (.int x1), .val (.int x2)] [(.int (114 : Int32)), (.int (10 : Int32)), (.ref b364), (.ref b364)])) rfl rfl (hb hby wd_d174)
        have O443 := O436.wr W442 ge365
        have KP444 := KP437.wr W442 (Or.inr sz366)
        have Zs445 := Nat.le_trans Zs438 (Keep.of_wr W442).1
        have V446 : Arv Z h442 b364 k364 .char (19 : Int32) [(.int (nar .char (115 : Int32))), (.int (nar .char (116 : Int32))), (.int (nar .char (111 : Int32))), (.int (nar .char (99 : Int32))), (.int (nar .char (107 : Int32))), (.int (nar .char (45 : Int32))), (.int (nar .char (100 : Int32))), (.int (nar .char (105 : Int32))), (.int (nar .char (115 : Int32))), (.int (nar .char (116 : Int32))), (.int (nar .char (114 : Int32))), (.int (0 : Int32)), (.int (0 : Int32)), (.int (0 : Int32)), (.int (0 : Int32)), (.int (0 : Int32)), (.int (0 : Int32)), (.int (0 : Int32)), (.int (0 : Int32))] (.int (0 : Int32)) := Arv.set A441 q441 S441 M441 H441 U441 (fits_nar_char _) W442 10 rfl (Nat.le_of_ble_eq_true rfl)
        have N447 := Fr.snoc X442 N440 ge365
        refine own_back st442 ?_
        show OwnGo p e below (T442.setTop (mkF m 175 #[.val (.int x0), .val (.int x1), .val (.int x2)] [(.ref b364)])) _
        refine own_back (fun t k => XS.dup X442.here hx rfl (hb hby wd_d175) rfl rfl k) ?_
        show OwnGo p e below (T442.setTop (mkF m 176 #[.val (.int x0), .val (.int x1), .val (.int x2)] [(.ref b364), (.ref b364)])) _
        refine own_back (fun t k => XS.bipush X442.here hx rfl (hb hby wd_d176) k) ?_
        show OwnGo p e below (T442.setTop (mkF m 178 #[.val (.int x0), .val (.int x1), .val (.int x2)] [(.int (11 : Int32)), (.ref b364), (.ref b364)])) _
        refine own_back (fun t k => XS.bipush X442.here hx rfl (hb hby wd_d178) k) ?_
        show OwnGo p e below (T442.setTop (mkF m 180 #[.val (.int x0), .val (.int x1), .val (.int x2)] [(.int (105 : Int32)), (.int (11 : Int32)), (.ref b364), (.ref b364)])) _
        obtain ⟨c448, A448, q448, S448, M448, H448, U448⟩ := id V446
        obtain ⟨T449, h449, X449, e449, W449, st449⟩ := stC X442 hx hZ e442 A448 (j := (11 : Int32)) (inb_of S448 ⟨by decide, by decide⟩) (g := (mkF m 180 #[.val (.int x0), .val (.int x1), .val (.int x2)] [(.int (105 : Int32)), (.int (11 : Int32)), (.ref b364), (.ref b364)])) rfl rfl (hb hby wd_d180)
        have O450 := O443.wr W449 ge365
        have KP451 := KP444.wr W449 (Or.inr sz366)
        have Zs452 := Nat.le_trans Zs445 (Keep.of_wr W449).1
        have V453 : Arv Z h449 b364 k364 .char (19 : Int32) [(.int (nar .char (115 : Int32))), (.int (nar .char (116 : Int32))), (.int (nar .char (111 : Int32))), (.int (nar .char (99 : Int32))), (.int (nar .char (107 : Int32))), (.int (nar .char (45 : Int32))), (.int (nar .char (100 : Int32))), (.int (nar .char (105 : Int32))), (.int (nar .char (115 : Int32))), (.int (nar .char (116 : Int32))), (.int (nar .char (114 : Int32))), (.int (nar .char (105 : Int32))), (.int (0 : Int32)), (.int (0 : Int32)), (.int (0 : Int32)), (.int (0 : Int32)), (.int (0 : Int32)), (.int (0 : Int32)), (.int (0 : Int32))] (.int (0 : Int32)) := Arv.set A448 q448 S448 M448 H448 U448 (fits_nar_char _) W449 11 rfl (Nat.le_of_ble_eq_true rfl)
        have N454 := Fr.snoc X449 N447 ge365
        refine own_back st449 ?_
        show OwnGo p e below (T449.setTop (mkF m 181 #[.val (.int x0), .val (.int x1), .val (.int x2)] [(.ref b364)])) _
        refine own_back (fun t k => XS.dup X449.here hx rfl (hb hby wd_d181) rfl rfl k) ?_
        show OwnGo p e below (T449.setTop (mkF m 182 #[.val (.int x0), .val (.int x1), .val (.int x2)] [(.ref b364), (.ref b364)])) _
        refine own_back (fun t k => XS.bipush X449.here hx rfl (hb hby wd_d182) k) ?_
        show OwnGo p e below (T449.setTop (mkF m 184 #[.val (.int x0), .val (.int x1), .val (.int x2)] [(.int (12 : Int32)), (.ref b364), (.ref b364)])) _
        refine own_back (fun t k => XS.bipush X449.here hx rfl (hb hby wd_d184) k) ?_
        show OwnGo p e below (T449.setTop (mkF m 186 #[.val (.int x0), .val (.int x1), .val (.int x2)] [(.int (98 : Int32)), (.int (12 : Int32)), (.ref b364), (.ref b364)])) _
        obtain ⟨c455, A455, q455, S455, M455, H455, U455⟩ := id V453
        obtain ⟨T456, h456, X456, e456, W456, st456⟩ := stC X449 hx hZ e449 A455 (j := (12 : Int32)) (inb_of S455 ⟨by decide, by decide⟩) (g := (mkF m 186 #[.val (.int x0), .val (.int x1), .val (.int x2)] [(.int (98 : Int32)), (.int (12 : Int32)), (.ref b364), (.ref b364)])) rfl rfl (hb hby wd_d186)
        have O457 := O450.wr W456 ge365
        have KP458 := KP451.wr W456 (Or.inr sz366)
        have Zs459 := Nat.le_trans Zs452 (Keep.of_wr W456).1
        have V460 : Arv Z h456 b364 k364 .char (19 : Int32) [(.int (nar .char (115 : Int32))), (.int (nar .char (116 : Int32))), (.int (nar .char (111 : Int32))), (.int (nar .char (99 : Int32))), (.int (nar .char (107 : Int32))), (.int (nar .char (45 : Int32))), (.int (nar .char (100 : Int32))), (.int (nar .char (105 : Int32))), (.int (nar .char (115 : Int32))), (.int (nar .char (116 : Int32))), (.int (nar .char (114 : Int32))), (.int (nar .char (105 : Int32))), (.int (nar .char (98 : Int32))), (.int (0 : Int32)), (.int (0 : Int32)), (.int (0 : Int32)), (.int (0 : Int32)), (.int (0 : Int32)), (.int (0 : Int32))] (.int (0 : Int32)) := Arv.set A455 q455 S455 M455 H455 U455 (fits_nar_char _) W456 12 rfl (Nat.le_of_ble_eq_true rfl)
        have N461 := Fr.snoc X456 N454 ge365
        refine own_back st456 ?_
        show OwnGo p e below (T456.setTop (mkF m 187 #[.val (.int x0), .val (.int x1), .val (.int x2)] [(.ref b364)])) _
        refine own_back (fun t k => XS.dup X456.here hx rfl (hb hby wd_d187) rfl rfl k) ?_
        show OwnGo p e below (T456.setTop (mkF m 188 #[.val (.int x0), .val (.int x1), .val (.int x2)] [(.ref b364), (.ref b364)])) _
        refine own_back (fun t k => XS.bipush X456.here hx rfl (hb hby wd_d188) k) ?_
        show OwnGo p e below (T456.setTop (mkF m 190 #[.val (.int x0), .val (.int x1), .val (.int x2)] [(.int (13 : Int32)), (.ref b364), (.ref b364)])) _
        refine own_back (fun t k => XS.bipush X456.here hx rfl (hb hby wd_d190) k) ?_
        show OwnGo p e below (T456.setTop (mkF m 192 #[.val (.int x0), .val (.int x1), .val (.int x2)] [(.int (117 : Int32)), (.int (13 : Int32)), (.ref b364), (.ref b364)])) _
        obtain ⟨c462, A462, q462, S462, M462, H462, U462⟩ := id V460
        obtain ⟨T463, h463, X463, e463, W463, st463⟩ := stC X456 hx hZ e456 A462 (j := (13 : Int32)) (inb_of S462 ⟨by decide, by decide⟩) (g := (mkF m 192 #[.val (.int x0), .val (.int x1), .val (.int x2)] [(.int (117 : Int32)), (.int (13 : Int32)), (.ref b364), (.ref b364)])) rfl rfl (hb hby wd_d192)
        have O464 := O457.wr W463 ge365
        have KP465 := KP458.wr W463 (Or.inr sz366)
        have Zs466 := Nat.le_trans Zs459 (Keep.of_wr W463).1
        have V467 : Arv Z h463 b364 k364 .char (19 : Int32) [(.int (nar .char (115 : Int32))), (.int (nar .char (116 : Int32))), (.int (nar .char (111 : Int32))), (.int (nar .char (99 : Int32))), (.int (nar .char (107 : Int32))), (.int (nar .char (45 : Int32))), (.int (nar .char (100 : Int32))), (.int (nar .char (105 : Int32))), (.int (nar .char (115 : Int32))), (.int (nar .char (116 : Int32))), (.int (nar .char (114 : Int32))), (.int (nar .char (105 : Int32))), (.int (nar .char (98 : Int32))), (.int (nar .char (117 : Int32))), (.int (0 : Int32)), (.int (0 : Int32)), (.int (0 : Int32)), (.int (0 : Int32)), (.int (0 : Int32))] (.int (0 : Int32)) := Arv.set A462 q462 S462 M462 H462 U462 (fits_nar_char _) W463 13 rfl (Nat.le_of_ble_eq_true rfl)
        have N468 := Fr.snoc X463 N461 ge365
        refine own_back st463 ?_
        show OwnGo p e below (T463.setTop (mkF m 193 #[.val (.int x0), .val (.int x1), .val (.int x2)] [(.ref b364)])) _
        refine own_back (fun t k => XS.dup X463.here hx rfl (hb hby wd_d193) rfl rfl k) ?_
        show OwnGo p e below (T463.setTop (mkF m 194 #[.val (.int x0), .val (.int x1), .val (.int x2)] [(.ref b364), (.ref b364)])) _
        refine own_back (fun t k => XS.bipush X463.here hx rfl (hb hby wd_d194) k) ?_
        show OwnGo p e below (T463.setTop (mkF m 196 #[.val (.int x0), .val (.int x1), .val (.int x2)] [(.int (14 : Int32)), (.ref b364), (.ref b364)])) _
        refine own_back (fun t k => XS.bipush X463.here hx rfl (hb hby wd_d196) k) ?_
        show OwnGo p e below (T463.setTop (mkF m 198 #[.val (.int x0), .val (.int x1), .val (.int x2)] [(.int (116 : Int32)), (.int (14 : Int32)), (.ref b364), (.ref b364)])) _
        obtain ⟨c469, A469, q469, S469, M469, H469, U469⟩ := id V467
        obtain ⟨T470, h470, X470, e470, W470, st470⟩ := stC X463 hx hZ e463 A469 (j := (14 : Int32)) (inb_of S469 ⟨by decide, by decide⟩) (g := (mkF m 198 #[.val (.int x0), .val (.int x1), .val (.int x2)] [(.int (116 : Int32)), (.int (14 : Int32)), (.ref b364), (.ref b364)])) rfl rfl (hb hby wd_d198)
        have O471 := O464.wr W470 ge365
        have KP472 := KP465.wr W470 (Or.inr sz366)
        have Zs473 := Nat.le_trans Zs466 (Keep.of_wr W470).1
        have V474 : Arv Z h470 b364 k364 .char (19 : Int32) [(.int (nar .char (115 : Int32))), (.int (nar .char (116 : Int32))), (.int (nar .char (111 : Int32))), (.int (nar .char (99 : Int32))), (.int (nar .char (107 : Int32))), (.int (nar .char (45 : Int32))), (.int (nar .char (100 : Int32))), (.int (nar .char (105 : Int32))), (.int (nar .char (115 : Int32))), (.int (nar .char (116 : Int32))), (.int (nar .char (114 : Int32))), (.int (nar .char (105 : Int32))), (.int (nar .char (98 : Int32))), (.int (nar .char (117 : Int32))), (.int (nar .char (116 : Int32))), (.int (0 : Int32)), (.int (0 : Int32)), (.int (0 : Int32)), (.int (0 : Int32))] (.int (0 : Int32)) := Arv.set A469 q469 S469 M469 H469 U469 (fits_nar_char _) W470 14 rfl (Nat.le_of_ble_eq_true rfl)
        have N475 := Fr.snoc X470 N468 ge365
        refine own_back st470 ?_
        show OwnGo p e below (T470.setTop (mkF m 199 #[.val (.int x0), .val (.int x1), .val (.int x2)] [(.ref b364)])) _
        refine own_back (fun t k => XS.dup X470.here hx rfl (hb hby wd_d199) rfl rfl k) ?_
        show OwnGo p e below (T470.setTop (mkF m 200 #[.val (.int x0), .val (.int x1), .val (.int x2)] [(.ref b364), (.ref b364)])) _
        refine own_back (fun t k => XS.bipush X470.here hx rfl (hb hby wd_d200) k) ?_
        show OwnGo p e below (T470.setTop (mkF m 202 #[.val (.int x0), .val (.int x1), .val (.int x2)] [(.int (15 : Int32)), (.ref b364), (.ref b364)])) _
        refine own_back (fun t k => XS.bipush X470.here hx rfl (hb hby wd_d202) k) ?_
        show OwnGo p e below (T470.setTop (mkF m 204 #[.val (.int x0), .val (.int x1), .val (.int x2)] [(.int (105 : Int32)), (.int (15 : Int32)), (.ref b364), (.ref b364)])) _
        obtain ⟨c476, A476, q476, S476, M476, H476, U476⟩ := id V474
        obtain ⟨T477, h477, X477, e477, W477, st477⟩ := stC X470 hx hZ e470 A476 (j := (15 : Int32)) (inb_of S476 ⟨by decide, by decide⟩) (g := (mkF m 204 #[.val (.int x0), .val (.int x1), .val (.int x2)] [(.int (105 : Int32)), (.int (15 : Int32)), (.ref b364), (.ref b364)])) rfl rfl (hb hby wd_d204)
        have O478 := O471.wr W477 ge365
        have KP479 := KP472.wr W477 (Or.inr sz366)
        have Zs480 := Nat.le_trans Zs473 (Keep.of_wr W477).1
        have V481 : Arv Z h477 b364 k364 .char (19 : Int32) [(.int (nar .char (115 : Int32))), (.int (nar .char (116 : Int32))), (.int (nar .char (111 : Int32))), (.int (nar .char (99 : Int32))), (.int (nar .char (107 : Int32))), (.int (nar .char (45 : Int32))), (.int (nar .char (100 : Int32))), (.int (nar .char (105 : Int32))), (.int (nar .char (115 : Int32))), (.int (nar .char (116 : Int32))), (.int (nar .char (114 : Int32))), (.int (nar .char (105 : Int32))), (.int (nar .char (98 : Int32))), (.int (nar .char (117 : Int32))), (.int (nar .char (116 : Int32))), (.int (nar .char (105 : Int32))), (.int (0 : Int32)), (.int (0 : Int32)), (.int (0 : Int32))] (.int (0 : Int32)) := Arv.set A476 q476 S476 M476 H476 U476 (fits_nar_char _) W477 15 rfl (Nat.le_of_ble_eq_true rfl)
        have N482 := Fr.snoc X477 N475 ge365
        refine own_back st477 ?_
        show OwnGo p e below (T477.setTop (mkF m 205 #[.val (.int x0), .val (.int x1), .val (.int x2)] [(.ref b364)])) _
        refine own_back (fun t k => XS.dup X477.here hx rfl (hb hby wd_d205) rfl rfl k) ?_
        show OwnGo p e below (T477.setTop (mkF m 206 #[.val (.int x0), .val (.int x1), .val (.int x2)] [(.ref b364), (.ref b364)])) _
        refine own_back (fun t k => XS.bipush X477.here hx rfl (hb hby wd_d206) k) ?_
        show OwnGo p e below (T477.setTop (mkF m 208 #[.val (.int x0), .val (.int x1), .val (.int x2)] [(.int (16 : Int32)), (.ref b364), (.ref b364)])) _
        refine own_back (fun t k => XS.bipush X477.here hx rfl (hb hby wd_d208) k) ?_
        show OwnGo p e below (T477.setTop (mkF m 210 #[.val (.int x0), .val (.int x1), .val (.int x2)] [(.int (111 : Int32)), (.int (16 : Int32)), (.ref b364), (.ref b364)])) _
        obtain ⟨c483, A483, q483, S483, M483, H483, U483⟩ := id V481
        obtain ⟨T484, h484, X484, e484, W484, st484⟩ := stC X477 hx hZ e477 A483 (j := (16 : Int32)) (inb_of S483 ⟨by decide, by decide⟩) (g := (mkF m 210 #[.val (.int x0), .val (.int x1), .val (.int x2)] [(.int (111 : Int32)), (.int (16 : Int32)), (.ref b364), (.ref b364)])) rfl rfl (hb hby wd_d210)
        have O485 := O478.wr W484 ge365
        have KP486 := KP479.wr W484 (Or.inr sz366)
        have Zs487 := Nat.le_trans Zs480 (Keep.of_wr W484).1
        have V488 : Arv Z h484 b364 k364 .char (19 : Int32) [(.int (nar .char (115 : Int32))), (.int (nar .char (116 : Int32))), (.int (nar .char (111 : Int32))), (.int (nar .char (99 : Int32))), (.int (nar .char (107 : Int32))), (.int (nar .char (45 : Int32))), (.int (nar .char (100 : Int32))), (.int (nar .char (105 : Int32))), (.int (nar .char (115 : Int32))), (.int (nar .char (116 : Int32))), (.int (nar .char (114 : Int32))), (.int (nar .char (105 : Int32))), (.int (nar .char (98 : Int32))), (.int (nar .char (117 : Int32))), (.int (nar .char (116 : Int32))), (.int (nar .char (105 : Int32))), (.int (nar .char (111 : Int32))), (.int (0 : Int32)), (.int (0 : Int32))] (.int (0 : Int32)) := Arv.set A483 q483 S483 M483 H483 U483 (fits_nar_char _) W484 16 rfl (Nat.le_of_ble_eq_true rfl)
        have N489 := Fr.snoc X484 N482 ge365
        refine own_back st484 ?_
        show OwnGo p e below (T484.setTop (mkF m 211 #[.val (.int x0), .val (.int x1), .val (.int x2)] [(.ref b364)])) _
        refine own_back (fun t k => XS.dup X484.here hx rfl (hb hby wd_d211) rfl rfl k) ?_
        show OwnGo p e below (T484.setTop (mkF m 212 #[.val (.int x0), .val (.int x1), .val (.int x2)] [(.ref b364), (.ref b364)])) _
        refine own_back (fun t k => XS.bipush X484.here hx rfl (hb hby wd_d212) k) ?_
        show OwnGo p e below (T484.setTop (mkF m 214 #[.val (.int x0), .val (.int x1), .val (.int x2)] [(.int (17 : Int32)), (.ref b364), (.ref b364)])) _
        refine own_back (fun t k => XS.bipush X484.here hx rfl (hb hby wd_d214) k) ?_
        show OwnGo p e below (T484.setTop (mkF m 216 #[.val (.int x0), .val (.int x1), .val (.int x2)] [(.int (110 : Int32)), (.int (17 : Int32)), (.ref b364), (.ref b364)])) _
        obtain ⟨c490, A490, q490, S490, M490, H490, U490⟩ := id V488
        obtain ⟨T491, h491, X491, e491, W491, st491⟩ := stC X484 hx hZ e484 A490 (j := (17 : Int32)) (inb_of S490 ⟨by decide, by decide⟩) (g := (mkF m 216 #[.val (.int x0), .val (.int x1), .val (.int x2)] [(.int (110 : Int32)), (.int (17 : Int32)), (.ref b364), (.ref b364)])) rfl rfl (hb hby wd_d216)
        have O492 := O485.wr W491 ge365
        have KP493 := KP486.wr W491 (Or.inr sz366)
        have Zs494 := Nat.le_trans Zs487 (Keep.of_wr W491).1
        have V495 : Arv Z h491 b364 k364 .char (19 : Int32) [(.int (nar .char (115 : Int32))), (.int (nar .char (116 : Int32))), (.int (nar .char (111 : Int32))), (.int (nar .char (99 : Int32))), (.int (nar .char (107 : Int32))), (.int (nar .char (45 : Int32))), (.int (nar .char (100 : Int32))), (.int (nar .char (105 : Int32))), (.int (nar .char (115 : Int32))), (.int (nar .char (116 : Int32))), (.int (nar .char (114 : Int32))), (.int (nar .char (105 : Int32))), (.int (nar .char (98 : Int32))), (.int (nar .char (117 : Int32))), (.int (nar .char (116 : Int32))), (.int (nar .char (105 : Int32))), (.int (nar .char (111 : Int32))), (.int (nar .char (110 : Int32))), (.int (0 : Int32))] (.int (0 : Int32)) := Arv.set A490 q490 S490 M490 H490 U490 (fits_nar_char _) W491 17 rfl (Nat.le_of_ble_eq_true rfl)
        have N496 := Fr.snoc X491 N489 ge365
        refine own_back st491 ?_
        show OwnGo p e below (T491.setTop (mkF m 217 #[.val (.int x0), .val (.int x1), .val (.int x2)] [(.ref b364)])) _
        refine own_back (fun t k => XS.dup X491.here hx rfl (hb hby wd_d217) rfl rfl k) ?_
        show OwnGo p e below (T491.setTop (mkF m 218 #[.val (.int x0), .val (.int x1), .val (.int x2)] [(.ref b364), (.ref b364)])) _
        refine own_back (fun t k => XS.bipush X491.here hx rfl (hb hby wd_d218) k) ?_
        show OwnGo p e below (T491.setTop (mkF m 220 #[.val (.int x0), .val (.int x1), .val (.int x2)] [(.int (18 : Int32)), (.ref b364), (.ref b364)])) _
        refine own_back (fun t k => XS.iloadN X491.here hx rfl (hb hby wd_d220) rfl k) ?_
        show OwnGo p e below (T491.setTop (mkF m 221 #[.val (.int x0), .val (.int x1), .val (.int x2)] [(.int x2), (.int (18 : Int32)), (.ref b364), (.ref b364)])) _
        obtain ⟨c497, A497, q497, S497, M497, H497, U497⟩ := id V495
        obtain ⟨T498, h498, X498, e498, W498, st498⟩ := stC X491 hx hZ e491 A497 (j := (18 : Int32)) (inb_of S497 ⟨by decide, by decide⟩) (g := (mkF m 221 #[.val (.int x0), .val (.int x1), .val (.int x2)] [(.int x2), (.int (18 : Int32)), (.ref b364), (.ref b364)])) rfl rfl (hb hby wd_d221)
        have O499 := O492.wr W498 ge365
        have KP500 := KP493.wr W498 (Or.inr sz366)
        have Zs501 := Nat.le_trans Zs494 (Keep.of_wr W498).1
        have V502 : Arv Z h498 b364 k364 .char (19 : Int32) [(.int (nar .char (115 : Int32))), (.int (nar .char (116 : Int32))), (.int (nar .char (111 : Int32))), (.int (nar .char (99 : Int32))), (.int (nar .char (107 : Int32))), (.int (nar .char (45 : Int32))), (.int (nar .char (100 : Int32))), (.int (nar .char (105 : Int32))), (.int (nar .char (115 : Int32))), (.int (nar .char (116 : Int32))), (.int (nar .char (114 : Int32))), (.int (nar .char (105 : Int32))), (.int (nar .char (98 : Int32))), (.int (nar .char (117 : Int32))), (.int (nar .char (116 : Int32))), (.int (nar .char (105 : Int32))), (.int (nar .char (111 : Int32))), (.int (nar .char (110 : Int32))), (.int (nar .char x2))] (.int (0 : Int32)) := Arv.set A497 q497 S497 M497 H497 U497 (fits_nar_char _) W498 18 rfl (Nat.le_of_ble_eq_true rfl)
        have N503 := Fr.snoc X498 N496 ge365
        refine own_back st498 ?_
        show OwnGo p e below (T498.setTop (mkF m 222 #[.val (.int x0), .val (.int x1), .val (.int x2)] [(.ref b364)])) _
        refine own_retA X498 hx Bd.notSynchronized Bd.returns rfl rfl (hb hby wd_d222) e498 (Nat.le_of_ble_eq_true rfl) (Nat.le_of_ble_eq_true rfl) ?_
        exact ⟨b364, _, [(nar .char (115 : Int32)), (nar .char (116 : Int32)), (nar .char (111 : Int32)), (nar .char (99 : Int32)), (nar .char (107 : Int32)), (nar .char (45 : Int32)), (nar .char (100 : Int32)), (nar .char (105 : Int32)), (nar .char (115 : Int32)), (nar .char (116 : Int32)), (nar .char (114 : Int32)), (nar .char (105 : Int32)), (nar .char (98 : Int32)), (nar .char (117 : Int32)), (nar .char (116 : Int32)), (nar .char (105 : Int32)), (nar .char (111 : Int32)), (nar .char (110 : Int32)), (nar .char x2)], rfl, N503, own_ext KP500, V502, sz366, (own_allS (OwnCh.of (by decide)) (own_allS (OwnCh.of (by decide)) (own_allS (OwnCh.of (by decide)) (own_allS (OwnCh.of (by decide)) (own_allS (OwnCh.of (by decide)) (own_allS (OwnCh.of (by decide)) (own_allS (OwnCh.of (by decide)) (own_allS (OwnCh.of (by decide)) (own_allS (OwnCh.of (by decide)) (own_allS (OwnCh.of (by decide)) (own_allS (OwnCh.of (by decide)) (own_allS (OwnCh.of (by decide)) (own_allS (OwnCh.of (by decide)) (own_allS (OwnCh.of (by decide)) (own_allS (OwnCh.of (by decide)) (own_allS (OwnCh.of (by decide)) (own_allS (OwnCh.of (by decide)) (own_allS (OwnCh.of (by decide)) (own_allS (own_hpn hx2) own_all0))))))))))))))))))), Nat.le_of_ble_eq_true rfl, Nat.le_of_ble_eq_true rfl⟩
      · refine own_back (fun t k => XS.icmpYes X0.here hx rfl (pc0 := 108) (pc' := 223) rfl (hb hby wd_d108) rfl (Jvm.Free.XT.ii_ne_t hc108_363) (by decide) (by decide) k) ?_
        show OwnGo p e below (s₁.setTop (mkF m 223 #[.val (.int x0), .val (.int x1), .val (.int x2)] [])) _
        refine own_back (fun t k => XS.iloadN X0.here hx rfl (hb hby wd_d223) rfl k) ?_
        show OwnGo p e below (s₁.setTop (mkF m 224 #[.val (.int x0), .val (.int x1), .val (.int x2)] [(.int x1)])) _
        refine own_back (fun t k => XS.iconst X0.here hx rfl (hb hby wd_d224) k) ?_
        show OwnGo p e below (s₁.setTop (mkF m 225 #[.val (.int x0), .val (.int x1), .val (.int x2)] [(.int (2 : Int32)), (.int x1)])) _
        by_cases hc225_504 : x1 = (2 : Int32)
        · refine own_back (fun t k => XS.icmpNo X0.here hx rfl (hb hby wd_d225) rfl (Jvm.Free.XT.ii_ne_f hc225_504) k) ?_
          show OwnGo p e below (s₁.setTop (mkF m 228 #[.val (.int x0), .val (.int x1), .val (.int x2)] [])) _
          refine own_back (fun t k => XS.bipush X0.here hx rfl (hb hby wd_d228) k) ?_
          show OwnGo p e below (s₁.setTop (mkF m 230 #[.val (.int x0), .val (.int x1), .val (.int x2)] [(.int (17 : Int32))])) _
          obtain ⟨T505, h505, k505, X505, e505, E505, A505, st505⟩ := newP X0 hx hZ (hw _ (List.mem_of_getElem? (i := 5) rfl)) e0 (g := (mkF m 230 #[.val (.int x0), .val (.int x1), .val (.int x2)] [(.int (17 : Int32))])) rfl (hb hby wd_d230) rfl (by decide) (cap := 17) (by decide) (by decide) (Nat.le_of_ble_eq_true rfl) (Nat.le_of_ble_eq_true rfl)
          obtain ⟨b505, g505⟩ : ∃ z, z = h0.size := ⟨_, rfl⟩
          have ge506 : n0 ≤ b505 := Nat.le_trans Z0 (Nat.le_of_eq g505.symm)
          have sz507 : h0.size ≤ b505 := Nat.le_trans KP0.1 (Nat.le_of_eq g505.symm)
          rw [← g505] at A505 st505
          have O508 := OL.ext E505
          have KP509 := KP0.ext E505
          have Zs510 := Nat.le_trans Z0 E505.1
          have V511 : Arv Z h505 b505 k505 .char (17 : Int32) [(.int (0 : Int32)), (.int (0 : Int32)), (.int (0 : Int32)), (.int (0 : Int32)), (.int (0 : Int32)), (.int (0 : Int32)), (.int (0 : Int32)), (.int (0 : Int32)), (.int (0 : Int32)), (.int (0 : Int32)), (.int (0 : Int32)), (.int (0 : Int32)), (.int (0 : Int32)), (.int (0 : Int32)), (.int (0 : Int32)), (.int (0 : Int32)), (.int (0 : Int32))] (.int (0 : Int32)) := (Arv.new A505 (by decide)).pad (pad_rep [] (.int (0 : Int32)) 17)
          refine own_back st505 ?_
          show OwnGo p e below (T505.setTop (mkF m 232 #[.val (.int x0), .val (.int x1), .val (.int x2)] [(.ref b505)])) _
          refine own_back (fun t k => XS.dup X505.here hx rfl (hb hby wd_d232) rfl rfl k) ?_
          show OwnGo p e below (T505.setTop (mkF m 233 #[.val (.int x0), .val (.int x1), .val (.int x2)] [(.ref b505), (.ref b505)])) _
          refine own_back (fun t k => XS.iconst X505.here hx rfl (hb hby wd_d233) k) ?_
          show OwnGo p e below (T505.setTop (mkF m 234 #[.val (.int x0), .val (.int x1), .val (.int x2)] [(.int (0 : Int32)), (.ref b505), (.ref b505)])) _
          refine own_back (fun t k => XS.bipush X505.here hx rfl (hb hby wd_d234) k) ?_
          show OwnGo p e below (T505.setTop (mkF m 236 #[.val (.int x0), .val (.int x1), .val (.int x2)] [(.int (115 : Int32)), (.int (0 : Int32)), (.ref b505), (.ref b505)])) _
          obtain ⟨c512, A512, q512, S512, M512, H512, U512⟩ := id V511
          obtain ⟨T513, h513, X513, e513, W513, st513⟩ := stC X505 hx hZ e505 A512 (j := (0 : Int32)) (inb_of S512 ⟨by decide, by decide⟩) (g := (mkF m 236 #[.val (.int x0), .val (.int x1), .val (.int x2)] [(.int (115 : Int32)), (.int (0 : Int32)), (.ref b505), (.ref b505)])) rfl rfl (hb hby wd_d236)
          have O514 := O508.wr W513 ge506
          have KP515 := KP509.wr W513 (Or.inr sz507)
          have Zs516 := Nat.le_trans Zs510 (Keep.of_wr W513).1
          have V517 : Arv Z h513 b505 k505 .char (17 : Int32) [(.int (nar .char (115 : Int32))), (.int (0 : Int32)), (.int (0 : Int32)), (.int (0 : Int32)), (.int (0 : Int32)), (.int (0 : Int32)), (.int (0 : Int32)), (.int (0 : Int32)), (.int (0 : Int32)), (.int (0 : Int32)), (.int (0 : Int32)), (.int (0 : Int32)), (.int (0 : Int32)), (.int (0 : Int32)), (.int (0 : Int32)), (.int (0 : Int32)), (.int (0 : Int32))] (.int (0 : Int32)) := Arv.set A512 q512 S512 M512 H512 U512 (fits_nar_char _) W513 0 rfl (Nat.le_of_ble_eq_true rfl)
          have N518 := Fr.snoc X513 N0 ge506
          refine own_back st513 ?_
          show OwnGo p e below (T513.setTop (mkF m 237 #[.val (.int x0), .val (.int x1), .val (.int x2)] [(.ref b505)])) _
          refine own_back (fun t k => XS.dup X513.here hx rfl (hb hby wd_d237) rfl rfl k) ?_
          show OwnGo p e below (T513.setTop (mkF m 238 #[.val (.int x0), .val (.int x1), .val (.int x2)] [(.ref b505), (.ref b505)])) _
          refine own_back (fun t k => XS.iconst X513.here hx rfl (hb hby wd_d238) k) ?_
          show OwnGo p e below (T513.setTop (mkF m 239 #[.val (.int x0), .val (.int x1), .val (.int x2)] [(.int (1 : Int32)), (.ref b505), (.ref b505)])) _
          refine own_back (fun t k => XS.bipush X513.here hx rfl (hb hby wd_d239) k) ?_
          show OwnGo p e below (T513.setTop (mkF m 241 #[.val (.int x0), .val (.int x1), .val (.int x2)] [(.int (116 : Int32)), (.int (1 : Int32)), (.ref b505), (.ref b505)])) _
          obtain ⟨c519, A519, q519, S519, M519, H519, U519⟩ := id V517
          obtain ⟨T520, h520, X520, e520, W520, st520⟩ := stC X513 hx hZ e513 A519 (j := (1 : Int32)) (inb_of S519 ⟨by decide, by decide⟩) (g := (mkF m 241 #[.val (.int x0), .val (.int x1), .val (.int x2)] [(.int (116 : Int32)), (.int (1 : Int32)), (.ref b505), (.ref b505)])) rfl rfl (hb hby wd_d241)
          have O521 := O514.wr W520 ge506
          have KP522 := KP515.wr W520 (Or.inr sz507)
          have Zs523 := Nat.le_trans Zs516 (Keep.of_wr W520).1
          have V524 : Arv Z h520 b505 k505 .char (17 : Int32) [(.int (nar .char (115 : Int32))), (.int (nar .char (116 : Int32))), (.int (0 : Int32)), (.int (0 : Int32)), (.int (0 : Int32)), (.int (0 : Int32)), (.int (0 : Int32)), (.int (0 : Int32)), (.int (0 : Int32)), (.int (0 : Int32)), (.int (0 : Int32)), (.int (0 : Int32)), (.int (0 : Int32)), (.int (0 : Int32)), (.int (0 : Int32)), (.int (0 : Int32)), (.int (0 : Int32))] (.int (0 : Int32)) := Arv.set A519 q519 S519 M519 H519 U519 (fits_nar_char _) W520 1 rfl (Nat.le_of_ble_eq_true rfl)
          have N525 := Fr.snoc X520 N518 ge506
          refine own_back st520 ?_
          show OwnGo p e below (T520.setTop (mkF m 242 #[.val (.int x0), .val (.int x1), .val (.int x2)] [(.ref b505)])) _
          refine own_back (fun t k => XS.dup X520.here hx rfl (hb hby wd_d242) rfl rfl k) ?_
          show OwnGo p e below (T520.setTop (mkF m 243 #[.val (.int x0), .val (.int x1), .val (.int x2)] [(.ref b505), (.ref b505)])) _
          refine own_back (fun t k => XS.iconst X520.here hx rfl (hb hby wd_d243) k) ?_
          show OwnGo p e below (T520.setTop (mkF m 244 #[.val (.int x0), .val (.int x1), .val (.int x2)] [(.int (2 : Int32)), (.ref b505), (.ref b505)])) _
          refine own_back (fun t k => XS.bipush X520.here hx rfl (hb hby wd_d244) k) ?_
          show OwnGo p e below (T520.setTop (mkF m 246 #[.val (.int x0), .val (.int x1), .val (.int x2)] [(.int (111 : Int32)), (.int (2 : Int32)), (.ref b505), (.ref b505)])) _
          obtain ⟨c526, A526, q526, S526, M526, H526, U526⟩ := id V524
          obtain ⟨T527, h527, X527, e527, W527, st527⟩ := stC X520 hx hZ e520 A526 (j := (2 : Int32)) (inb_of S526 ⟨by decide, by decide⟩) (g := (mkF m 246 #[.val (.int x0), .val (.int x1), .val (.int x2)] [(.int (111 : Int32)), (.int (2 : Int32)), (.ref b505), (.ref b505)])) rfl rfl (hb hby wd_d246)
          have O528 := O521.wr W527 ge506
          have KP529 := KP522.wr W527 (Or.inr sz507)
          have Zs530 := Nat.le_trans Zs523 (Keep.of_wr W527).1
          have V531 : Arv Z h527 b505 k505 .char (17 : Int32) [(.int (nar .char (115 : Int32))), (.int (nar .char (116 : Int32))), (.int (nar .char (111 : Int32))), (.int (0 : Int32)), (.int (0 : Int32)), (.int (0 : Int32)), (.int (0 : Int32)), (.int (0 : Int32)), (.int (0 : Int32)), (.int (0 : Int32)), (.int (0 : Int32)), (.int (0 : Int32)), (.int (0 : Int32)), (.int (0 : Int32)), (.int (0 : Int32)), (.int (0 : Int32)), (.int (0 : Int32))] (.int (0 : Int32)) := Arv.set A526 q526 S526 M526 H526 U526 (fits_nar_char _) W527 2 rfl (Nat.le_of_ble_eq_true rfl)
          have N532 := Fr.snoc X527 N525 ge506
          refine own_back st527 ?_
          show OwnGo p e below (T527.setTop (mkF m 247 #[.val (.int x0), .val (.int x1), .val (.int x2)] [(.ref b505)])) _
          refine own_back (fun t k => XS.dup X527.here hx rfl (hb hby wd_d247) rfl rfl k) ?_
          show OwnGo p e below (T527.setTop (mkF m 248 #[.val (.int x0), .val (.int x1), .val (.int x2)] [(.ref b505), (.ref b505)])) _
          refine own_back (fun t k => XS.iconst X527.here hx rfl (hb hby wd_d248) k) ?_
          show OwnGo p e below (T527.setTop (mkF m 249 #[.val (.int x0), .val (.int x1), .val (.int x2)] [(.int (3 : Int32)), (.ref b505), (.ref b505)])) _
          refine own_back (fun t k => XS.bipush X527.here hx rfl (hb hby wd_d249) k) ?_
          show OwnGo p e below (T527.setTop (mkF m 251 #[.val (.int x0), .val (.int x1), .val (.int x2)] [(.int (99 : Int32)), (.int (3 : Int32)), (.ref b505), (.ref b505)])) _
          obtain ⟨c533, A533, q533, S533, M533, H533, U533⟩ := id V531
          obtain ⟨T534, h534, X534, e534, W534, st534⟩ := stC X527 hx hZ e527 A533 (j := (3 : Int32)) (inb_of S533 ⟨by decide, by decide⟩) (g := (mkF m 251 #[.val (.int x0), .val (.int x1), .val (.int x2)] [(.int (99 : Int32)), (.int (3 : Int32)), (.ref b505), (.ref b505)])) rfl rfl (hb hby wd_d251)
          have O535 := O528.wr W534 ge506
          have KP536 := KP529.wr W534 (Or.inr sz507)
          have Zs537 := Nat.le_trans Zs530 (Keep.of_wr W534).1
          have V538 : Arv Z h534 b505 k505 .char (17 : Int32) [(.int (nar .char (115 : Int32))), (.int (nar .char (116 : Int32))), (.int (nar .char (111 : Int32))), (.int (nar .char (99 : Int32))), (.int (0 : Int32)), (.int (0 : Int32)), (.int (0 : Int32)), (.int (0 : Int32)), (.int (0 : Int32)), (.int (0 : Int32)), (.int (0 : Int32)), (.int (0 : Int32)), (.int (0 : Int32)), (.int (0 : Int32)), (.int (0 : Int32)), (.int (0 : Int32)), (.int (0 : Int32))] (.int (0 : Int32)) := Arv.set A533 q533 S533 M533 H533 U533 (fits_nar_char _) W534 3 rfl (Nat.le_of_ble_eq_true rfl)
          have N539 := Fr.snoc X534 N532 ge506
          refine own_back st534 ?_
          show OwnGo p e below (T534.setTop (mkF m 252 #[.val (.int x0), .val (.int x1), .val (.int x2)] [(.ref b505)])) _
          refine own_back (fun t k => XS.dup X534.here hx rfl (hb hby wd_d252) rfl rfl k) ?_
          show OwnGo p e below (T534.setTop (mkF m 253 #[.val (.int x0), .val (.int x1), .val (.int x2)] [(.ref b505), (.ref b505)])) _
          refine own_back (fun t k => XS.iconst X534.here hx rfl (hb hby wd_d253) k) ?_
          show OwnGo p e below (T534.setTop (mkF m 254 #[.val (.int x0), .val (.int x1), .val (.int x2)] [(.int (4 : Int32)), (.ref b505), (.ref b505)])) _
          refine own_back (fun t k => XS.bipush X534.here hx rfl (hb hby wd_d254) k) ?_
          show OwnGo p e below (T534.setTop (mkF m 256 #[.val (.int x0), .val (.int x1), .val (.int x2)] [(.int (107 : Int32)), (.int (4 : Int32)), (.ref b505), (.ref b505)])) _
          obtain ⟨c540, A540, q540, S540, M540, H540, U540⟩ := id V538
          obtain ⟨T541, h541, X541, e541, W541, st541⟩ := stC X534 hx hZ e534 A540 (j := (4 : Int32)) (inb_of S540 ⟨by decide, by decide⟩) (g := (mkF m 256 #[.val (.int x0), .val (.int x1), .val (.int x2)] [(.int (107 : Int32)), (.int (4 : Int32)), (.ref b505), (.ref b505)])) rfl rfl (hb hby wd_d256)
          have O542 := O535.wr W541 ge506
          have KP543 := KP536.wr W541 (Or.inr sz507)
          have Zs544 := Nat.le_trans Zs537 (Keep.of_wr W541).1
          have V545 : Arv Z h541 b505 k505 .char (17 : Int32) [(.int (nar .char (115 : Int32))), (.int (nar .char (116 : Int32))), (.int (nar .char (111 : Int32))), (.int (nar .char (99 : Int32))), (.int (nar .char (107 : Int32))), (.int (0 : Int32)), (.int (0 : Int32)), (.int (0 : Int32)), (.int (0 : Int32)), (.int (0 : Int32)), (.int (0 : Int32)), (.int (0 : Int32)), (.int (0 : Int32)), (.int (0 : Int32)), (.int (0 : Int32)), (.int (0 : Int32)), (.int (0 : Int32))] (.int (0 : Int32)) := Arv.set A540 q540 S540 M540 H540 U540 (fits_nar_char _) W541 4 rfl (Nat.le_of_ble_eq_true rfl)
          have N546 := Fr.snoc X541 N539 ge506
          refine own_back st541 ?_
          show OwnGo p e below (T541.setTop (mkF m 257 #[.val (.int x0), .val (.int x1), .val (.int x2)] [(.ref b505)])) _
          refine own_back (fun t k => XS.dup X541.here hx rfl (hb hby wd_d257) rfl rfl k) ?_
          show OwnGo p e below (T541.setTop (mkF m 258 #[.val (.int x0), .val (.int x1), .val (.int x2)] [(.ref b505), (.ref b505)])) _
          refine own_back (fun t k => XS.iconst X541.here hx rfl (hb hby wd_d258) k) ?_
          show OwnGo p e below (T541.setTop (mkF m 259 #[.val (.int x0), .val (.int x1), .val (.int x2)] [(.int (5 : Int32)), (.ref b505), (.ref b505)])) _
          refine own_back (fun t k => XS.bipush X541.here hx rfl (hb hby wd_d259) k) ?_
          show OwnGo p e below (T541.setTop (mkF m 261 #[.val (.int x0), .val (.int x1), .val (.int x2)] [(.int (45 : Int32)), (.int (5 : Int32)), (.ref b505), (.ref b505)])) _
          obtain ⟨c547, A547, q547, S547, M547, H547, U547⟩ := id V545
          obtain ⟨T548, h548, X548, e548, W548, st548⟩ := stC X541 hx hZ e541 A547 (j := (5 : Int32)) (inb_of S547 ⟨by decide, by decide⟩) (g := (mkF m 261 #[.val (.int x0), .val (.int x1), .val (.int x2)] [(.int (45 : Int32)), (.int (5 : Int32)), (.ref b505), (.ref b505)])) rfl rfl (hb hby wd_d261)
          have O549 := O542.wr W548 ge506
          have KP550 := KP543.wr W548 (Or.inr sz507)
          have Zs551 := Nat.le_trans Zs544 (Keep.of_wr W548).1
          have V552 : Arv Z h548 b505 k505 .char (17 : Int32) [(.int (nar .char (115 : Int32))), (.int (nar .char (116 : Int32))), (.int (nar .char (111 : Int32))), (.int (nar .char (99 : Int32))), (.int (nar .char (107 : Int32))), (.int (nar .char (45 : Int32))), (.int (0 : Int32)), (.int (0 : Int32)), (.int (0 : Int32)), (.int (0 : Int32)), (.int (0 : Int32)), (.int (0 : Int32)), (.int (0 : Int32)), (.int (0 : Int32)), (.int (0 : Int32)), (.int (0 : Int32)), (.int (0 : Int32))] (.int (0 : Int32)) := Arv.set A547 q547 S547 M547 H547 U547 (fits_nar_char _) W548 5 rfl (Nat.le_of_ble_eq_true rfl)
          have N553 := Fr.snoc X548 N546 ge506
          refine own_back st548 ?_
          show OwnGo p e below (T548.setTop (mkF m 262 #[.val (.int x0), .val (.int x1), .val (.int x2)] [(.ref b505)])) _
          refine own_back (fun t k => XS.dup X548.here hx rfl (hb hby wd_d262) rfl rfl k) ?_
          show OwnGo p e below (T548.setTop (mkF m 263 #[.val (.int x0), .val (.int x1), .val (.int x2)] [(.ref b505), (.ref b505)])) _
          refine own_back (fun t k => XS.bipush X548.here hx rfl (hb hby wd_d263) k) ?_
          show OwnGo p e below (T548.setTop (mkF m 265 #[.val (.int x0), .val (.int x1), .val (.int x2)] [(.int (6 : Int32)), (.ref b505), (.ref b505)])) _
          refine own_back (fun t k => XS.bipush X548.here hx rfl (hb hby wd_d265) k) ?_
          show OwnGo p e below (T548.setTop (mkF m 267 #[.val (.int x0), .val (.int x1), .val (.int x2)] [(.int (100 : Int32)), (.int (6 : Int32)), (.ref b505), (.ref b505)])) _
          obtain ⟨c554, A554, q554, S554, M554, H554, U554⟩ := id V552
          obtain ⟨T555, h555, X555, e555, W555, st555⟩ := stC X548 hx hZ e548 A554 (j := (6 : Int32)) (inb_of S554 ⟨by decide, by decide⟩) (g := (mkF m 267 #[.val (.int x0), .val (.int x1), .val (.int x2)] [(.int (100 : Int32)), (.int (6 : Int32)), (.ref b505), (.ref b505)])) rfl rfl (hb hby wd_d267)
          have O556 := O549.wr W555 ge506
          have KP557 := KP550.wr W555 (Or.inr sz507)
          have Zs558 := Nat.le_trans Zs551 (Keep.of_wr W555).1
          have V559 : Arv Z h555 b505 k505 .char (17 : Int32) [(.int (nar .char (115 : Int32))), (.int (nar .char (116 : Int32))), (.int (nar .char (111 : Int32))), (.int (nar .char (99 : Int32))), (.int (nar .char (107 : Int32))), (.int (nar .char (45 : Int32))), (.int (nar .char (100 : Int32))), (.int (0 : Int32)), (.int (0 : Int32)), (.int (0 : Int32)), (.int (0 : Int32)), (.int (0 : Int32)), (.int (0 : Int32)), (.int (0 : Int32)), (.int (0 : Int32)), (.int (0 : Int32)), (.int (0 : Int32))] (.int (0 : Int32)) := Arv.set A554 q554 S554 M554 H554 U554 (fits_nar_char _) W555 6 rfl (Nat.le_of_ble_eq_true rfl)
          have N560 := Fr.snoc X555 N553 ge506
          refine own_back st555 ?_
          show OwnGo p e below (T555.setTop (mkF m 268 #[.val (.int x0), .val (.int x1), .val (.int x2)] [(.ref b505)])) _
          refine own_back (fun t k => XS.dup X555.here hx rfl (hb hby wd_d268) rfl rfl k) ?_
          show OwnGo p e below (T555.setTop (mkF m 269 #[.val (.int x0), .val (.int x1), .val (.int x2)] [(.ref b505), (.ref b505)])) _
          refine own_back (fun t k => XS.bipush X555.here hx rfl (hb hby wd_d269) k) ?_
          show OwnGo p e below (T555.setTop (mkF m 271 #[.val (.int x0), .val (.int x1), .val (.int x2)] [(.int (7 : Int32)), (.ref b505), (.ref b505)])) _
          refine own_back (fun t k => XS.bipush X555.here hx rfl (hb hby wd_d271) k) ?_
          show OwnGo p e below (T555.setTop (mkF m 273 #[.val (.int x0), .val (.int x1), .val (.int x2)] [(.int (105 : Int32)), (.int (7 : Int32)), (.ref b505), (.ref b505)])) _
          obtain ⟨c561, A561, q561, S561, M561, H561, U561⟩ := id V559
          obtain ⟨T562, h562, X562, e562, W562, st562⟩ := stC X555 hx hZ e555 A561 (j := (7 : Int32)) (inb_of S561 ⟨by decide, by decide⟩) (g := (mkF m 273 #[.val (.int x0), .val (.int x1), .val (.int x2)] [(.int (105 : Int32)), (.int (7 : Int32)), (.ref b505), (.ref b505)])) rfl rfl (hb hby wd_d273)
          have O563 := O556.wr W562 ge506
          have KP564 := KP557.wr W562 (Or.inr sz507)
          have Zs565 := Nat.le_trans Zs558 (Keep.of_wr W562).1
          have V566 : Arv Z h562 b505 k505 .char (17 : Int32) [(.int (nar .char (115 : Int32))), (.int (nar .char (116 : Int32))), (.int (nar .char (111 : Int32))), (.int (nar .char (99 : Int32))), (.int (nar .char (107 : Int32))), (.int (nar .char (45 : Int32))), (.int (nar .char (100 : Int32))), (.int (nar .char (105 : Int32))), (.int (0 : Int32)), (.int (0 : Int32)), (.int (0 : Int32)), (.int (0 : Int32)), (.int (0 : Int32)), (.int (0 : Int32)), (.int (0 : Int32)), (.int (0 : Int32)), (.int (0 : Int32))] (.int (0 : Int32)) := Arv.set A561 q561 S561 M561 H561 U561 (fits_nar_char _) W562 7 rfl (Nat.le_of_ble_eq_true rfl)
          have N567 := Fr.snoc X562 N560 ge506
          refine own_back st562 ?_
          show OwnGo p e below (T562.setTop (mkF m 274 #[.val (.int x0), .val (.int x1), .val (.int x2)] [(.ref b505)])) _
          refine own_back (fun t k => XS.dup X562.here hx rfl (hb hby wd_d274) rfl rfl k) ?_
          show OwnGo p e below (T562.setTop (mkF m 275 #[.val (.int x0), .val (.int x1), .val (.int x2)] [(.ref b505), (.ref b505)])) _
          refine own_back (fun t k => XS.bipush X562.here hx rfl (hb hby wd_d275) k) ?_
          show OwnGo p e below (T562.setTop (mkF m 277 #[.val (.int x0), .val (.int x1), .val (.int x2)] [(.int (8 : Int32)), (.ref b505), (.ref b505)])) _
          refine own_back (fun t k => XS.bipush X562.here hx rfl (hb hby wd_d277) k) ?_
          show OwnGo p e below (T562.setTop (mkF m 279 #[.val (.int x0), .val (.int x1), .val (.int x2)] [(.int (115 : Int32)), (.int (8 : Int32)), (.ref b505), (.ref b505)])) _
          obtain ⟨c568, A568, q568, S568, M568, H568, U568⟩ := id V566
          obtain ⟨T569, h569, X569, e569, W569, st569⟩ := stC X562 hx hZ e562 A568 (j := (8 : Int32)) (inb_of S568 ⟨by decide, by decide⟩) (g := (mkF m 279 #[.val (.int x0), .val (.int x1), .val (.int x2)] [(.int (115 : Int32)), (.int (8 : Int32)), (.ref b505), (.ref b505)])) rfl rfl (hb hby wd_d279)
          have O570 := O563.wr W569 ge506
          have KP571 := KP564.wr W569 (Or.inr sz507)
          have Zs572 := Nat.le_trans Zs565 (Keep.of_wr W569).1
          have V573 : Arv Z h569 b505 k505 .char (17 : Int32) [(.int (nar .char (115 : Int32))), (.int (nar .char (116 : Int32))), (.int (nar .char (111 : Int32))), (.int (nar .char (99 : Int32))), (.int (nar .char (107 : Int32))), (.int (nar .char (45 : Int32))), (.int (nar .char (100 : Int32))), (.int (nar .char (105 : Int32))), (.int (nar .char (115 : Int32))), (.int (0 : Int32)), (.int (0 : Int32)), (.int (0 : Int32)), (.int (0 : Int32)), (.int (0 : Int32)), (.int (0 : Int32)), (.int (0 : Int32)), (.int (0 : Int32))] (.int (0 : Int32)) := Arv.set A568 q568 S568 M568 H568 U568 (fits_nar_char _) W569 8 rfl (Nat.le_of_ble_eq_true rfl)
          have N574 := Fr.snoc X569 N567 ge506
          refine own_back st569 ?_
          show OwnGo p e below (T569.setTop (mkF m 280 #[.val (.int x0), .val (.int x1), .val (.int x2)] [(.ref b505)])) _
          refine own_back (fun t k => XS.dup X569.here hx rfl (hb hby wd_d280) rfl rfl k) ?_
          show OwnGo p e below (T569.setTop (mkF m 281 #[.val (.int x0), .val (.int x1), .val (.int x2)] [(.ref b505), (.ref b505)])) _
          refine own_back (fun t k => XS.bipush X569.here hx rfl (hb hby wd_d281) k) ?_
          show OwnGo p e below (T569.setTop (mkF m 283 #[.val (.int x0), .val (.int x1), .val (.int x2)] [(.int (9 : Int32)), (.ref b505), (.ref b505)])) _
          refine own_back (fun t k => XS.bipush X569.here hx rfl (hb hby wd_d283) k) ?_
          show OwnGo p e below (T569.setTop (mkF m 285 #[.val (.int x0), .val (.int x1), .val (.int x2)] [(.int (116 : Int32)), (.int (9 : Int32)), (.ref b505), (.ref b505)])) _
          obtain ⟨c575, A575, q575, S575, M575, H575, U575⟩ := id V573
          obtain ⟨T576, h576, X576, e576, W576, st576⟩ := stC X569 hx hZ e569 A575 (j := (9 : Int32)) (inb_of S575 ⟨by decide, by decide⟩) (g := (mkF m 285 #[.val (.int x0), .val (.int x1), .val (.int x2)] [(.int (116 : Int32)), (.int (9 : Int32)), (.ref b505), (.ref b505)])) rfl rfl (hb hby wd_d285)
          have O577 := O570.wr W576 ge506
          have KP578 := KP571.wr W576 (Or.inr sz507)
          have Zs579 := Nat.le_trans Zs572 (Keep.of_wr W576).1
          have V580 : Arv Z h576 b505 k505 .char (17 : Int32) [(.int (nar .char (115 : Int32))), (.int (nar .char (116 : Int32))), (.int (nar .char (111 : Int32))), (.int (nar .char (99 : Int32))), (.int (nar .char (107 : Int32))), (.int (nar .char (45 : Int32))), (.int (nar .char (100 : Int32))), (.int (nar .char (105 : Int32))), (.int (nar .char (115 : Int32))), (.int (nar .char (116 : Int32))), (.int (0 : Int32)), (.int (0 : Int32)), (.int (0 : Int32)), (.int (0 : Int32)), (.int (0 : Int32)), (.int (0 : Int32)), (.int (0 : Int32))] (.int (0 : Int32)) := Arv.set A575 q575 S575 M575 H575 U575 (fits_nar_char _) W576 9 rfl (Nat.le_of_ble_eq_true rfl)
          have N581 := Fr.snoc X576 N574 ge506
          refine own_back st576 ?_
          show OwnGo p e below (T576.setTop (mkF m 286 #[.val (.int x0), .val (.int x1), .val (.int x2)] [(.ref b505)])) _
          refine own_back (fun t k => XS.dup X576.here hx rfl (hb hby wd_d286) rfl rfl k) ?_
          show OwnGo p e below (T576.setTop (mkF m 287 #[.val (.int x0), .val (.int x1), .val (.int x2)] [(.ref b505), (.ref b505)])) _
          refine own_back (fun t k => XS.bipush X576.here hx rfl (hb hby wd_d287) k) ?_
          show OwnGo p e below (T576.setTop (mkF m 289 #[.val (.int x0), .val (.int x1), .val (.int x2)] [(.int (10 : Int32)), (.ref b505), (.ref b505)])) _
          refine own_back (fun t k => XS.bipush X576.here hx rfl (hb hby wd_d289) k) ?_
          show OwnGo p e below (T576.setTop (mkF m 291 #[.val (.int x0), .val (.int x1), .val (.int x2)] [(.int (114 : Int32)), (.int (10 : Int32)), (.ref b505), (.ref b505)])) _
          obtain ⟨c582, A582, q582, S582, M582, H582, U582⟩ := id V580
          obtain ⟨T583, h583, X583, e583, W583, st583⟩ := stC X576 hx hZ e576 A582 (j := (10 : Int32)) (inb_of S582 ⟨by decide, by decide⟩) (g := (mkF m 291 #[.val (.int x0), .val (.int x1), .val (.int x2)] [(.int (114 : Int32)), (.int (10 : Int32)), (.ref b505), (.ref b505)])) rfl rfl (hb hby wd_d291)
          have O584 := O577.wr W583 ge506
          have KP585 := KP578.wr W583 (Or.inr sz507)
          have Zs586 := Nat.le_trans Zs579 (Keep.of_wr W583).1
          have V587 : Arv Z h583 b505 k505 .char (17 : Int32) [(.int (nar .char (115 : Int32))), (.int (nar .char (116 : Int32))), (.int (nar .char (111 : Int32))), (.int (nar .char (99 : Int32))), (.int (nar .char (107 : Int32))), (.int (nar .char (45 : Int32))), (.int (nar .char (100 : Int32))), (.int (nar .char (105 : Int32))), (.int (nar .char (115 : Int32))), (.int (nar .char (116 : Int32))), (.int (nar .char (114 : Int32))), (.int (0 : Int32)), (.int (0 : Int32)), (.int (0 : Int32)), (.int (0 : Int32)), (.int (0 : Int32)), (.int (0 : Int32))] (.int (0 : Int32)) := Arv.set A582 q582 S582 M582 H582 U582 (fits_nar_char _) W583 10 rfl (Nat.le_of_ble_eq_true rfl)
          have N588 := Fr.snoc X583 N581 ge506
          refine own_back st583 ?_
          show OwnGo p e below (T583.setTop (mkF m 292 #[.val (.int x0), .val (.int x1), .val (.int x2)] [(.ref b505)])) _
          refine own_back (fun t k => XS.dup X583.here hx rfl (hb hby wd_d292) rfl rfl k) ?_
          show OwnGo p e below (T583.setTop (mkF m 293 #[.val (.int x0), .val (.int x1), .val (.int x2)] [(.ref b505), (.ref b505)])) _
          refine own_back (fun t k => XS.bipush X583.here hx rfl (hb hby wd_d293) k) ?_
          show OwnGo p e below (T583.setTop (mkF m 295 #[.val (.int x0), .val (.int x1), .val (.int x2)] [(.int (11 : Int32)), (.ref b505), (.ref b505)])) _
          refine own_back (fun t k => XS.bipush X583.here hx rfl (hb hby wd_d295) k) ?_
          show OwnGo p e below (T583.setTop (mkF m 297 #[.val (.int x0), .val (.int x1), .val (.int x2)] [(.int (105 : Int32)), (.int (11 : Int32)), (.ref b505), (.ref b505)])) _
          obtain ⟨c589, A589, q589, S589, M589, H589, U589⟩ := id V587
          obtain ⟨T590, h590, X590, e590, W590, st590⟩ := stC X583 hx hZ e583 A589 (j := (11 : Int32)) (inb_of S589 ⟨by decide, by decide⟩) (g := (mkF m 297 #[.val (.int x0), .val (.int x1), .val (.int x2)] [(.int (105 : Int32)), (.int (11 : Int32)), (.ref b505), (.ref b505)])) rfl rfl (hb hby wd_d297)
          have O591 := O584.wr W590 ge506
          have KP592 := KP585.wr W590 (Or.inr sz507)
          have Zs593 := Nat.le_trans Zs586 (Keep.of_wr W590).1
          have V594 : Arv Z h590 b505 k505 .char (17 : Int32) [(.int (nar .char (115 : Int32))), (.int (nar .char (116 : Int32))), (.int (nar .char (111 : Int32))), (.int (nar .char (99 : Int32))), (.int (nar .char (107 : Int32))), (.int (nar .char (45 : Int32))), (.int (nar .char (100 : Int32))), (.int (nar .char (105 : Int32))), (.int (nar .char (115 : Int32))), (.int (nar .char (116 : Int32))), (.int (nar .char (114 : Int32))), (.int (nar .char (105 : Int32))), (.int (0 : Int32)), (.int (0 : Int32)), (.int (0 : Int32)), (.int (0 : Int32)), (.int (0 : Int32))] (.int (0 : Int32)) := Arv.set A589 q589 S589 M589 H589 U589 (fits_nar_char _) W590 11 rfl (Nat.le_of_ble_eq_true rfl)
          have N595 := Fr.snoc X590 N588 ge506
          refine own_back st590 ?_
          show OwnGo p e below (T590.setTop (mkF m 298 #[.val (.int x0), .val (.int x1), .val (.int x2)] [(.ref b505)])) _
          refine own_back (fun t k => XS.dup X590.here hx rfl (hb hby wd_d298) rfl rfl k) ?_
          show OwnGo p e below (T590.setTop (mkF m 299 #[.val (.int x0), .val (.int x1), .val (.int x2)] [(.ref b505), (.ref b505)])) _
          refine own_back (fun t k => XS.bipush X590.here hx rfl (hb hby wd_d299) k) ?_
          show OwnGo p e below (T590.setTop (mkF m 301 #[.val (.int x0), .val (.int x1), .val (.int x2)] [(.int (12 : Int32)), (.ref b505), (.ref b505)])) _
          refine own_back (fun t k => XS.bipush X590.here hx rfl (hb hby wd_d301) k) ?_
          show OwnGo p e below (T590.setTop (mkF m 303 #[.val (.int x0), .val (.int x1), .val (.int x2)] [(.int (98 : Int32)), (.int (12 : Int32)), (.ref b505), (.ref b505)])) _
          obtain ⟨c596, A596, q596, S596, M596, H596, U596⟩ := id V594
          obtain ⟨T597, h597, X597, e597, W597, st597⟩ := stC X590 hx hZ e590 A596 (j := (12 : Int32)) (inb_of S596 ⟨by decide, by decide⟩) (g := (mkF m 303 #[.val (.int x0), .val (.int x1), .val (.int x2)] [(.int (98 : Int32)), (.int (12 : Int32)), (.ref b505), (.ref b505)])) rfl rfl (hb hby wd_d303)
          have O598 := O591.wr W597 ge506
          have KP599 := KP592.wr W597 (Or.inr sz507)
          have Zs600 := Nat.le_trans Zs593 (Keep.of_wr W597).1
          have V601 : Arv Z h597 b505 k505 .char (17 : Int32) [(.int (nar .char (115 : Int32))), (.int (nar .char (116 : Int32))), (.int (nar .char (111 : Int32))), (.int (nar .char (99 : Int32))), (.int (nar .char (107 : Int32))), (.int (nar .char (45 : Int32))), (.int (nar .char (100 : Int32))), (.int (nar .char (105 : Int32))), (.int (nar .char (115 : Int32))), (.int (nar .char (116 : Int32))), (.int (nar .char (114 : Int32))), (.int (nar .char (105 : Int32))), (.int (nar .char (98 : Int32))), (.int (0 : Int32)), (.int (0 : Int32)), (.int (0 : Int32)), (.int (0 : Int32))] (.int (0 : Int32)) := Arv.set A596 q596 S596 M596 H596 U596 (fits_nar_char _) W597 12 rfl (Nat.le_of_ble_eq_true rfl)
          have N602 := Fr.snoc X597 N595 ge506
          refine own_back st597 ?_
          show OwnGo p e below (T597.setTop (mkF m 304 #[.val (.int x0), .val (.int x1), .val (.int x2)] [(.ref b505)])) _
          refine own_back (fun t k => XS.dup X597.here hx rfl (hb hby wd_d304) rfl rfl k) ?_
          show OwnGo p e below (T597.setTop (mkF m 305 #[.val (.int x0), .val (.int x1), .val (.int x2)] [(.ref b505), (.ref b505)])) _
          refine own_back (fun t k => XS.bipush X597.here hx rfl (hb hby wd_d305) k) ?_
          show OwnGo p e below (T597.setTop (mkF m 307 #[.val (.int x0), .val (.int x1), .val (.int x2)] [(.int (13 : Int32)), (.ref b505), (.ref b505)])) _
          refine own_back (fun t k => XS.bipush X597.here hx rfl (hb hby wd_d307) k) ?_
          show OwnGo p e below (T597.setTop (mkF m 309 #[.val (.int x0), .val (.int x1), .val (.int x2)] [(.int (117 : Int32)), (.int (13 : Int32)), (.ref b505), (.ref b505)])) _
          obtain ⟨c603, A603, q603, S603, M603, H603, U603⟩ := id V601
          obtain ⟨T604, h604, X604, e604, W604, st604⟩ := stC X597 hx hZ e597 A603 (j := (13 : Int32)) (inb_of S603 ⟨by decide, by decide⟩) (g := (mkF m 309 #[.val (.int x0), .val (.int x1), .val (.int x2)] [(.int (117 : Int32)), (.int (13 : Int32)), (.ref b505), (.ref b505)])) rfl rfl (hb hby wd_d309)
          have O605 := O598.wr W604 ge506
          have KP606 := KP599.wr W604 (Or.inr sz507)
          have Zs607 := Nat.le_trans Zs600 (Keep.of_wr W604).1
          have V608 : Arv Z h604 b505 k505 .char (17 : Int32) [(.int (nar .char (115 : Int32))), (.int (nar .char (116 : Int32))), (.int (nar .char (111 : Int32))), (.int (nar .char (99 : Int32))), (.int (nar .char (107 : Int32))), (.int (nar .char (45 : Int32))), (.int (nar .char (100 : Int32))), (.int (nar .char (105 : Int32))), (.int (nar .char (115 : Int32))), (.int (nar .char (116 : Int32))), (.int (nar .char (114 : Int32))), (.int (nar .char (105 : Int32))), (.int (nar .char (98 : Int32))), (.int (nar .char (117 : Int32))), (.int (0 : Int32)), (.int (0 : Int32)), (.int (0 : Int32))] (.int (0 : Int32)) := Arv.set A603 q603 S603 M603 H603 U603 (fits_nar_char _) W604 13 rfl (Nat.le_of_ble_eq_true rfl)
          have N609 := Fr.snoc X604 N602 ge506
          refine own_back st604 ?_
          show OwnGo p e below (T604.setTop (mkF m 310 #[.val (.int x0), .val (.int x1), .val (.int x2)] [(.ref b505)])) _
          refine own_back (fun t k => XS.dup X604.here hx rfl (hb hby wd_d310) rfl rfl k) ?_
          show OwnGo p e below (T604.setTop (mkF m 311 #[.val (.int x0), .val (.int x1), .val (.int x2)] [(.ref b505), (.ref b505)])) _
          refine own_back (fun t k => XS.bipush X604.here hx rfl (hb hby wd_d311) k) ?_
          show OwnGo p e below (T604.setTop (mkF m 313 #[.val (.int x0), .val (.int x1), .val (.int x2)] [(.int (14 : Int32)), (.ref b505), (.ref b505)])) _
          refine own_back (fun t k => XS.bipush X604.here hx rfl (hb hby wd_d313) k) ?_
          show OwnGo p e below (T604.setTop (mkF m 315 #[.val (.int x0), .val (.int x1), .val (.int x2)] [(.int (116 : Int32)), (.int (14 : Int32)), (.ref b505), (.ref b505)])) _
          obtain ⟨c610, A610, q610, S610, M610, H610, U610⟩ := id V608
          obtain ⟨T611, h611, X611, e611, W611, st611⟩ := stC X604 hx hZ e604 A610 (j := (14 : Int32)) (inb_of S610 ⟨by decide, by decide⟩) (g := (mkF m 315 #[.val (.int x0), .val (.int x1), .val (.int x2)] [(.int (116 : Int32)), (.int (14 : Int32)), (.ref b505), (.ref b505)])) rfl rfl (hb hby wd_d315)
          have O612 := O605.wr W611 ge506
          have KP613 := KP606.wr W611 (Or.inr sz507)
          have Zs614 := Nat.le_trans Zs607 (Keep.of_wr W611).1
          have V615 : Arv Z h611 b505 k505 .char (17 : Int32) [(.int (nar .char (115 : Int32))), (.int (nar .char (116 : Int32))), (.int (nar .char (111 : Int32))), (.int (nar .char (99 : Int32))), (.int (nar .char (107 : Int32))), (.int (nar .char (45 : Int32))), (.int (nar .char (100 : Int32))), (.int (nar .char (105 : Int32))), (.int (nar .char (115 : Int32))), (.int (nar .char (116 : Int32))), (.int (nar .char (114 : Int32))), (.int (nar .char (105 : Int32))), (.int (nar .char (98 : Int32))), (.int (nar .char (117 : Int32))), (.int (nar .char (116 : Int32))), (.int (0 : Int32)), (.int (0 : Int32))] (.int (0 : Int32)) := Arv.set A610 q610 S610 M610 H610 U610 (fits_nar_char _) W611 14 rfl (Nat.le_of_ble_eq_true rfl)
          have N616 := Fr.snoc X611 N609 ge506
          refine own_back st611 ?_
          show OwnGo p e below (T611.setTop (mkF m 316 #[.val (.int x0), .val (.int x1), .val (.int x2)] [(.ref b505)])) _
          refine own_back (fun t k => XS.dup X611.here hx rfl (hb hby wd_d316) rfl rfl k) ?_
          show OwnGo p e below (T611.setTop (mkF m 317 #[.val (.int x0), .val (.int x1), .val (.int x2)] [(.ref b505), (.ref b505)])) _
          refine own_back (fun t k => XS.bipush X611.here hx rfl (hb hby wd_d317) k) ?_
          show OwnGo p e below (T611.setTop (mkF m 319 #[.val (.int x0), .val (.int x1), .val (.int x2)] [(.int (15 : Int32)), (.ref b505), (.ref b505)])) _
          refine own_back (fun t k => XS.bipush X611.here hx rfl (hb hby wd_d319) k) ?_
          show OwnGo p e below (T611.setTop (mkF m 321 #[.val (.int x0), .val (.int x1), .val (.int x2)] [(.int (105 : Int32)), (.int (15 : Int32)), (.ref b505), (.ref b505)])) _
          obtain ⟨c617, A617, q617, S617, M617, H617, U617⟩ := id V615
          obtain ⟨T618, h618, X618, e618, W618, st618⟩ := stC X611 hx hZ e611 A617 (j := (15 : Int32)) (inb_of S617 ⟨by decide, by decide⟩) (g := (mkF m 321 #[.val (.int x0), .val (.int x1), .val (.int x2)] [(.int (105 : Int32)), (.int (15 : Int32)), (.ref b505), (.ref b505)])) rfl rfl (hb hby wd_d321)
          have O619 := O612.wr W618 ge506
          have KP620 := KP613.wr W618 (Or.inr sz507)
          have Zs621 := Nat.le_trans Zs614 (Keep.of_wr W618).1
          have V622 : Arv Z h618 b505 k505 .char (17 : Int32) [(.int (nar .char (115 : Int32))), (.int (nar .char (116 : Int32))), (.int (nar .char (111 : Int32))), (.int (nar .char (99 : Int32))), (.int (nar .char (107 : Int32))), (.int (nar .char (45 : Int32))), (.int (nar .char (100 : Int32))), (.int (nar .char (105 : Int32))), (.int (nar .char (115 : Int32))), (.int (nar .char (116 : Int32))), (.int (nar .char (114 : Int32))), (.int (nar .char (105 : Int32))), (.int (nar .char (98 : Int32))), (.int (nar .char (117 : Int32))), (.int (nar .char (116 : Int32))), (.int (nar .char (105 : Int32))), (.int (0 : Int32))] (.int (0 : Int32)) := Arv.set A617 q617 S617 M617 H617 U617 (fits_nar_char _) W618 15 rfl (Nat.le_of_ble_eq_true rfl)
          have N623 := Fr.snoc X618 N616 ge506
          refine own_back st618 ?_
          show OwnGo p e below (T618.setTop (mkF m 322 #[.val (.int x0), .val (.int x1), .val (.int x2)] [(.ref b505)])) _
          refine own_back (fun t k => XS.dup X618.here hx rfl (hb hby wd_d322) rfl rfl k) ?_
          show OwnGo p e below (T618.setTop (mkF m 323 #[.val (.int x0), .val (.int x1), .val (.int x2)] [(.ref b505), (.ref b505)])) _
          refine own_back (fun t k => XS.bipush X618.here hx rfl (hb hby wd_d323) k) ?_
          show OwnGo p e below (T618.setTop (mkF m 325 #[.val (.int x0), .val (.int x1), .val (.int x2)] [(.int (16 : Int32)), (.ref b505), (.ref b505)])) _
          refine own_back (fun t k => XS.bipush X618.here hx rfl (hb hby wd_d325) k) ?_
          show OwnGo p e below (T618.setTop (mkF m 327 #[.val (.int x0), .val (.int x1), .val (.int x2)] [(.int (111 : Int32)), (.int (16 : Int32)), (.ref b505), (.ref b505)])) _
          obtain ⟨c624, A624, q624, S624, M624, H624, U624⟩ := id V622
          obtain ⟨T625, h625, X625, e625, W625, st625⟩ := stC X618 hx hZ e618 A624 (j := (16 : Int32)) (inb_of S624 ⟨by decide, by decide⟩) (g := (mkF m 327 #[.val (.int x0), .val (.int x1), .val (.int x2)] [(.int (111 : Int32)), (.int (16 : Int32)), (.ref b505), (.ref b505)])) rfl rfl (hb hby wd_d327)
          have O626 := O619.wr W625 ge506
          have KP627 := KP620.wr W625 (Or.inr sz507)
          have Zs628 := Nat.le_trans Zs621 (Keep.of_wr W625).1
          have V629 : Arv Z h625 b505 k505 .char (17 : Int32) [(.int (nar .char (115 : Int32))), (.int (nar .char (116 : Int32))), (.int (nar .char (111 : Int32))), (.int (nar .char (99 : Int32))), (.int (nar .char (107 : Int32))), (.int (nar .char (45 : Int32))), (.int (nar .char (100 : Int32))), (.int (nar .char (105 : Int32))), (.int (nar .char (115 : Int32))), (.int (nar .char (116 : Int32))), (.int (nar .char (114 : Int32))), (.int (nar .char (105 : Int32))), (.int (nar .char (98 : Int32))), (.int (nar .char (117 : Int32))), (.int (nar .char (116 : Int32))), (.int (nar .char (105 : Int32))), (.int (nar .char (111 : Int32)))] (.int (0 : Int32)) := Arv.set A624 q624 S624 M624 H624 U624 (fits_nar_char _) W625 16 rfl (Nat.le_of_ble_eq_true rfl)
          have N630 := Fr.snoc X625 N623 ge506
          refine own_back st625 ?_
          show OwnGo p e below (T625.setTop (mkF m 328 #[.val (.int x0), .val (.int x1), .val (.int x2)] [(.ref b505)])) _
          refine own_retA X625 hx Bd.notSynchronized Bd.returns rfl rfl (hb hby wd_d328) e625 (Nat.le_of_ble_eq_true rfl) (Nat.le_of_ble_eq_true rfl) ?_
          exact ⟨b505, _, [(nar .char (115 : Int32)), (nar .char (116 : Int32)), (nar .char (111 : Int32)), (nar .char (99 : Int32)), (nar .char (107 : Int32)), (nar .char (45 : Int32)), (nar .char (100 : Int32)), (nar .char (105 : Int32)), (nar .char (115 : Int32)), (nar .char (116 : Int32)), (nar .char (114 : Int32)), (nar .char (105 : Int32)), (nar .char (98 : Int32)), (nar .char (117 : Int32)), (nar .char (116 : Int32)), (nar .char (105 : Int32)), (nar .char (111 : Int32))], rfl, N630, own_ext KP627, V629, sz507, (own_allS (OwnCh.of (by decide)) (own_allS (OwnCh.of (by decide)) (own_allS (OwnCh.of (by decide)) (own_allS (OwnCh.of (by decide)) (own_allS (OwnCh.of (by decide)) (own_allS (OwnCh.of (by decide)) (own_allS (OwnCh.of (by decide)) (own_allS (OwnCh.of (by decide)) (own_allS (OwnCh.of (by decide)) (own_allS (OwnCh.of (by decide)) (own_allS (OwnCh.of (by decide)) (own_allS (OwnCh.of (by decide)) (own_allS (OwnCh.of (by decide)) (own_allS (OwnCh.of (by decide)) (own_allS (OwnCh.of (by decide)) (own_allS (OwnCh.of (by decide)) (own_allS (OwnCh.of (by decide)) own_all0))))))))))))))))), Nat.le_of_ble_eq_true rfl, Nat.le_of_ble_eq_true rfl⟩
        · refine own_back (fun t k => XS.icmpYes X0.here hx rfl (pc0 := 225) (pc' := 329) rfl (hb hby wd_d225) rfl (Jvm.Free.XT.ii_ne_t hc225_504) (by decide) (by decide) k) ?_
          show OwnGo p e below (s₁.setTop (mkF m 329 #[.val (.int x0), .val (.int x1), .val (.int x2)] [])) _
          refine own_back (fun t k => XS.bipush X0.here hx rfl (hb hby wd_d329) k) ?_
          show OwnGo p e below (s₁.setTop (mkF m 331 #[.val (.int x0), .val (.int x1), .val (.int x2)] [(.int (18 : Int32))])) _
          obtain ⟨T631, h631, k631, X631, e631, E631, A631, st631⟩ := newP X0 hx hZ (hw _ (List.mem_of_getElem? (i := 5) rfl)) e0 (g := (mkF m 331 #[.val (.int x0), .val (.int x1), .val (.int x2)] [(.int (18 : Int32))])) rfl (hb hby wd_d331) rfl (by decide) (cap := 18) (by decide) (by decide) (Nat.le_of_ble_eq_true rfl) (Nat.le_of_ble_eq_true rfl)
          obtain ⟨b631, g631⟩ : ∃ z, z = h0.size := ⟨_, rfl⟩
          have ge632 : n0 ≤ b631 := Nat.le_trans Z0 (Nat.le_of_eq g631.symm)
          have sz633 : h0.size ≤ b631 := Nat.le_trans KP0.1 (Nat.le_of_eq g631.symm)
          rw [← g631] at A631 st631
          have O634 := OL.ext E631
          have KP635 := KP0.ext E631
          have Zs636 := Nat.le_trans Z0 E631.1
          have V637 : Arv Z h631 b631 k631 .char (18 : Int32) [(.int (0 : Int32)), (.int (0 : Int32)), (.int (0 : Int32)), (.int (0 : Int32)), (.int (0 : Int32)), (.int (0 : Int32)), (.int (0 : Int32)), (.int (0 : Int32)), (.int (0 : Int32)), (.int (0 : Int32)), (.int (0 : Int32)), (.int (0 : Int32)), (.int (0 : Int32)), (.int (0 : Int32)), (.int (0 : Int32)), (.int (0 : Int32)), (.int (0 : Int32)), (.int (0 : Int32))] (.int (0 : Int32)) := (Arv.new A631 (by decide)).pad (pad_rep [] (.int (0 : Int32)) 18)
          refine own_back st631 ?_
          show OwnGo p e below (T631.setTop (mkF m 333 #[.val (.int x0), .val (.int x1), .val (.int x2)] [(.ref b631)])) _
          refine own_back (fun t k => XS.dup X631.here hx rfl (hb hby wd_d333) rfl rfl k) ?_
          show OwnGo p e below (T631.setTop (mkF m 334 #[.val (.int x0), .val (.int x1), .val (.int x2)] [(.ref b631), (.ref b631)])) _
          refine own_back (fun t k => XS.iconst X631.here hx rfl (hb hby wd_d334) k) ?_
          show OwnGo p e below (T631.setTop (mkF m 335 #[.val (.int x0), .val (.int x1), .val (.int x2)] [(.int (0 : Int32)), (.ref b631), (.ref b631)])) _
          refine own_back (fun t k => XS.bipush X631.here hx rfl (hb hby wd_d335) k) ?_
          show OwnGo p e below (T631.setTop (mkF m 337 #[.val (.int x0), .val (.int x1), .val (.int x2)] [(.int (115 : Int32)), (.int (0 : Int32)), (.ref b631), (.ref b631)])) _
          obtain ⟨c638, A638, q638, S638, M638, H638, U638⟩ := id V637
          obtain ⟨T639, h639, X639, e639, W639, st639⟩ := stC X631 hx hZ e631 A638 (j := (0 : Int32)) (inb_of S638 ⟨by decide, by decide⟩) (g := (mkF m 337 #[.val (.int x0), .val (.int x1), .val (.int x2)] [(.int (115 : Int32)), (.int (0 : Int32)), (.ref b631), (.ref b631)])) rfl rfl (hb hby wd_d337)
          have O640 := O634.wr W639 ge632
          have KP641 := KP635.wr W639 (Or.inr sz633)
          have Zs642 := Nat.le_trans Zs636 (Keep.of_wr W639).1
          have V643 : Arv Z h639 b631 k631 .char (18 : Int32) [(.int (nar .char (115 : Int32))), (.int (0 : Int32)), (.int (0 : Int32)), (.int (0 : Int32)), (.int (0 : Int32)), (.int (0 : Int32)), (.int (0 : Int32)), (.int (0 : Int32)), (.int (0 : Int32)), (.int (0 : Int32)), (.int (0 : Int32)), (.int (0 : Int32)), (.int (0 : Int32)), (.int (0 : Int32)), (.int (0 : Int32)), (.int (0 : Int32)), (.int (0 : Int32)), (.int (0 : Int32))] (.int (0 : Int32)) := Arv.set A638 q638 S638 M638 H638 U638 (fits_nar_char _) W639 0 rfl (Nat.le_of_ble_eq_true rfl)
          have N644 := Fr.snoc X639 N0 ge632
          refine own_back st639 ?_
          show OwnGo p e below (T639.setTop (mkF m 338 #[.val (.int x0), .val (.int x1), .val (.int x2)] [(.ref b631)])) _
          refine own_back (fun t k => XS.dup X639.here hx rfl (hb hby wd_d338) rfl rfl k) ?_
          show OwnGo p e below (T639.setTop (mkF m 339 #[.val (.int x0), .val (.int x1), .val (.int x2)] [(.ref b631), (.ref b631)])) _
          refine own_back (fun t k => XS.iconst X639.here hx rfl (hb hby wd_d339) k) ?_
          show OwnGo p e below (T639.setTop (mkF m 340 #[.val (.int x0), .val (.int x1), .val (.int x2)] [(.int (1 : Int32)), (.ref b631), (.ref b631)])) _
          refine own_back (fun t k => XS.bipush X639.here hx rfl (hb hby wd_d340) k) ?_
          show OwnGo p e below (T639.setTop (mkF m 342 #[.val (.int x0), .val (.int x1), .val (.int x2)] [(.int (116 : Int32)), (.int (1 : Int32)), (.ref b631), (.ref b631)])) _
          obtain ⟨c645, A645, q645, S645, M645, H645, U645⟩ := id V643
          obtain ⟨T646, h646, X646, e646, W646, st646⟩ := stC X639 hx hZ e639 A645 (j := (1 : Int32)) (inb_of S645 ⟨by decide, by decide⟩) (g := (mkF m 342 #[.val (.int x0), .val (.int x1), .val (.int x2)] [(.int (116 : Int32)), (.int (1 : Int32)), (.ref b631), (.ref b631)])) rfl rfl (hb hby wd_d342)
          have O647 := O640.wr W646 ge632
          have KP648 := KP641.wr W646 (Or.inr sz633)
          have Zs649 := Nat.le_trans Zs642 (Keep.of_wr W646).1
          have V650 : Arv Z h646 b631 k631 .char (18 : Int32) [(.int (nar .char (115 : Int32))), (.int (nar .char (116 : Int32))), (.int (0 : Int32)), (.int (0 : Int32)), (.int (0 : Int32)), (.int (0 : Int32)), (.int (0 : Int32)), (.int (0 : Int32)), (.int (0 : Int32)), (.int (0 : Int32)), (.int (0 : Int32)), (.int (0 : Int32)), (.int (0 : Int32)), (.int (0 : Int32)), (.int (0 : Int32)), (.int (0 : Int32)), (.int (0 : Int32)), (.int (0 : Int32))] (.int (0 : Int32)) := Arv.set A645 q645 S645 M645 H645 U645 (fits_nar_char _) W646 1 rfl (Nat.le_of_ble_eq_true rfl)
          have N651 := Fr.snoc X646 N644 ge632
          refine own_back st646 ?_
          show OwnGo p e below (T646.setTop (mkF m 343 #[.val (.int x0), .val (.int x1), .val (.int x2)] [(.ref b631)])) _
          refine own_back (fun t k => XS.dup X646.here hx rfl (hb hby wd_d343) rfl rfl k) ?_
          show OwnGo p e below (T646.setTop (mkF m 344 #[.val (.int x0), .val (.int x1), .val (.int x2)] [(.ref b631), (.ref b631)])) _
          refine own_back (fun t k => XS.iconst X646.here hx rfl (hb hby wd_d344) k) ?_
          show OwnGo p e below (T646.setTop (mkF m 345 #[.val (.int x0), .val (.int x1), .val (.int x2)] [(.int (2 : Int32)), (.ref b631), (.ref b631)])) _
          refine own_back (fun t k => XS.bipush X646.here hx rfl (hb hby wd_d345) k) ?_
          show OwnGo p e below (T646.setTop (mkF m 347 #[.val (.int x0), .val (.int x1), .val (.int x2)] [(.int (111 : Int32)), (.int (2 : Int32)), (.ref b631), (.ref b631)])) _
          obtain ⟨c652, A652, q652, S652, M652, H652, U652⟩ := id V650
          obtain ⟨T653, h653, X653, e653, W653, st653⟩ := stC X646 hx hZ e646 A652 (j := (2 : Int32)) (inb_of S652 ⟨by decide, by decide⟩) (g := (mkF m 347 #[.val (.int x0), .val (.int x1), .val (.int x2)] [(.int (111 : Int32)), (.int (2 : Int32)), (.ref b631), (.ref b631)])) rfl rfl (hb hby wd_d347)
          have O654 := O647.wr W653 ge632
          have KP655 := KP648.wr W653 (Or.inr sz633)
          have Zs656 := Nat.le_trans Zs649 (Keep.of_wr W653).1
          have V657 : Arv Z h653 b631 k631 .char (18 : Int32) [(.int (nar .char (115 : Int32))), (.int (nar .char (116 : Int32))), (.int (nar .char (111 : Int32))), (.int (0 : Int32)), (.int (0 : Int32)), (.int (0 : Int32)), (.int (0 : Int32)), (.int (0 : Int32)), (.int (0 : Int32)), (.int (0 : Int32)), (.int (0 : Int32)), (.int (0 : Int32)), (.int (0 : Int32)), (.int (0 : Int32)), (.int (0 : Int32)), (.int (0 : Int32)), (.int (0 : Int32)), (.int (0 : Int32))] (.int (0 : Int32)) := Arv.set A652 q652 S652 M652 H652 U652 (fits_nar_char _) W653 2 rfl (Nat.le_of_ble_eq_true rfl)
          have N658 := Fr.snoc X653 N651 ge632
          refine own_back st653 ?_
          show OwnGo p e below (T653.setTop (mkF m 348 #[.val (.int x0), .val (.int x1), .val (.int x2)] [(.ref b631)])) _
          refine own_back (fun t k => XS.dup X653.here hx rfl (hb hby wd_d348) rfl rfl k) ?_
          show OwnGo p e below (T653.setTop (mkF m 349 #[.val (.int x0), .val (.int x1), .val (.int x2)] [(.ref b631), (.ref b631)])) _
          refine own_back (fun t k => XS.iconst X653.here hx rfl (hb hby wd_d349) k) ?_
          show OwnGo p e below (T653.setTop (mkF m 350 #[.val (.int x0), .val (.int x1), .val (.int x2)] [(.int (3 : Int32)), (.ref b631), (.ref b631)])) _
          refine own_back (fun t k => XS.bipush X653.here hx rfl (hb hby wd_d350) k) ?_
          show OwnGo p e below (T653.setTop (mkF m 352 #[.val (.int x0), .val (.int x1), .val (.int x2)] [(.int (99 : Int32)), (.int (3 : Int32)), (.ref b631), (.ref b631)])) _
          obtain ⟨c659, A659, q659, S659, M659, H659, U659⟩ := id V657
          obtain ⟨T660, h660, X660, e660, W660, st660⟩ := stC X653 hx hZ e653 A659 (j := (3 : Int32)) (inb_of S659 ⟨by decide, by decide⟩) (g := (mkF m 352 #[.val (.int x0), .val (.int x1), .val (.int x2)] [(.int (99 : Int32)), (.int (3 : Int32)), (.ref b631), (.ref b631)])) rfl rfl (hb hby wd_d352)
          have O661 := O654.wr W660 ge632
          have KP662 := KP655.wr W660 (Or.inr sz633)
          have Zs663 := Nat.le_trans Zs656 (Keep.of_wr W660).1
          have V664 : Arv Z h660 b631 k631 .char (18 : Int32) [(.int (nar .char (115 : Int32))), (.int (nar .char (116 : Int32))), (.int (nar .char (111 : Int32))), (.int (nar .char (99 : Int32))), (.int (0 : Int32)), (.int (0 : Int32)), (.int (0 : Int32)), (.int (0 : Int32)), (.int (0 : Int32)), (.int (0 : Int32)), (.int (0 : Int32)), (.int (0 : Int32)), (.int (0 : Int32)), (.int (0 : Int32)), (.int (0 : Int32)), (.int (0 : Int32)), (.int (0 : Int32)), (.int (0 : Int32))] (.int (0 : Int32)) := Arv.set A659 q659 S659 M659 H659 U659 (fits_nar_char _) W660 3 rfl (Nat.le_of_ble_eq_true rfl)
          have N665 := Fr.snoc X660 N658 ge632
          refine own_back st660 ?_
          show OwnGo p e below (T660.setTop (mkF m 353 #[.val (.int x0), .val (.int x1), .val (.int x2)] [(.ref b631)])) _
          refine own_back (fun t k => XS.dup X660.here hx rfl (hb hby wd_d353) rfl rfl k) ?_
          show OwnGo p e below (T660.setTop (mkF m 354 #[.val (.int x0), .val (.int x1), .val (.int x2)] [(.ref b631), (.ref b631)])) _
          refine own_back (fun t k => XS.iconst X660.here hx rfl (hb hby wd_d354) k) ?_
          show OwnGo p e below (T660.setTop (mkF m 355 #[.val (.int x0), .val (.int x1), .val (.int x2)] [(.int (4 : Int32)), (.ref b631), (.ref b631)])) _
          refine own_back (fun t k => XS.bipush X660.here hx rfl (hb hby wd_d355) k) ?_
          show OwnGo p e below (T660.setTop (mkF m 357 #[.val (.int x0), .val (.int x1), .val (.int x2)] [(.int (107 : Int32)), (.int (4 : Int32)), (.ref b631), (.ref b631)])) _
          obtain ⟨c666, A666, q666, S666, M666, H666, U666⟩ := id V664
          obtain ⟨T667, h667, X667, e667, W667, st667⟩ := stC X660 hx hZ e660 A666 (j := (4 : Int32)) (inb_of S666 ⟨by decide, by decide⟩) (g := (mkF m 357 #[.val (.int x0), .val (.int x1), .val (.int x2)] [(.int (107 : Int32)), (.int (4 : Int32)), (.ref b631), (.ref b631)])) rfl rfl (hb hby wd_d357)
          have O668 := O661.wr W667 ge632
          have KP669 := KP662.wr W667 (Or.inr sz633)
          have Zs670 := Nat.le_trans Zs663 (Keep.of_wr W667).1
          have V671 : Arv Z h667 b631 k631 .char (18 : Int32) [(.int (nar .char (115 : Int32))), (.int (nar .char (116 : Int32))), (.int (nar .char (111 : Int32))), (.int (nar .char (99 : Int32))), (.int (nar .char (107 : Int32))), (.int (0 : Int32)), (.int (0 : Int32)), (.int (0 : Int32)), (.int (0 : Int32)), (.int (0 : Int32)), (.int (0 : Int32)), (.int (0 : Int32)), (.int (0 : Int32)), (.int (0 : Int32)), (.int (0 : Int32)), (.int (0 : Int32)), (.int (0 : Int32)), (.int (0 : Int32))] (.int (0 : Int32)) := Arv.set A666 q666 S666 M666 H666 U666 (fits_nar_char _) W667 4 rfl (Nat.le_of_ble_eq_true rfl)
          have N672 := Fr.snoc X667 N665 ge632
          refine own_back st667 ?_
          show OwnGo p e below (T667.setTop (mkF m 358 #[.val (.int x0), .val (.int x1), .val (.int x2)] [(.ref b631)])) _
          refine own_back (fun t k => XS.dup X667.here hx rfl (hb hby wd_d358) rfl rfl k) ?_
          show OwnGo p e below (T667.setTop (mkF m 359 #[.val (.int x0), .val (.int x1), .val (.int x2)] [(.ref b631), (.ref b631)])) _
          refine own_back (fun t k => XS.iconst X667.here hx rfl (hb hby wd_d359) k) ?_
          show OwnGo p e below (T667.setTop (mkF m 360 #[.val (.int x0), .val (.int x1), .val (.int x2)] [(.int (5 : Int32)), (.ref b631), (.ref b631)])) _
          refine own_back (fun t k => XS.bipush X667.here hx rfl (hb hby wd_d360) k) ?_
          show OwnGo p e below (T667.setTop (mkF m 362 #[.val (.int x0), .val (.int x1), .val (.int x2)] [(.int (45 : Int32)), (.int (5 : Int32)), (.ref b631), (.ref b631)])) _
          obtain ⟨c673, A673, q673, S673, M673, H673, U673⟩ := id V671
          obtain ⟨T674, h674, X674, e674, W674, st674⟩ := stC X667 hx hZ e667 A673 (j := (5 : Int32)) (inb_of S673 ⟨by decide, by decide⟩) (g := (mkF m 362 #[.val (.int x0), .val (.int x1), .val (.int x2)] [(.int (45 : Int32)), (.int (5 : Int32)), (.ref b631), (.ref b631)])) rfl rfl (hb hby wd_d362)
          have O675 := O668.wr W674 ge632
          have KP676 := KP669.wr W674 (Or.inr sz633)
          have Zs677 := Nat.le_trans Zs670 (Keep.of_wr W674).1
          have V678 : Arv Z h674 b631 k631 .char (18 : Int32) [(.int (nar .char (115 : Int32))), (.int (nar .char (116 : Int32))), (.int (nar .char (111 : Int32))), (.int (nar .char (99 : Int32))), (.int (nar .char (107 : Int32))), (.int (nar .char (45 : Int32))), (.int (0 : Int32)), (.int (0 : Int32)), (.int (0 : Int32)), (.int (0 : Int32)), (.int (0 : Int32)), (.int (0 : Int32)), (.int (0 : Int32)), (.int (0 : Int32)), (.int (0 : Int32)), (.int (0 : Int32)), (.int (0 : Int32)), (.int (0 : Int32))] (.int (0 : Int32)) := Arv.set A673 q673 S673 M673 H673 U673 (fits_nar_char _) W674 5 rfl (Nat.le_of_ble_eq_true rfl)
          have N679 := Fr.snoc X674 N672 ge632
          refine own_back st674 ?_
          show OwnGo p e below (T674.setTop (mkF m 363 #[.val (.int x0), .val (.int x1), .val (.int x2)] [(.ref b631)])) _
          refine own_back (fun t k => XS.dup X674.here hx rfl (hb hby wd_d363) rfl rfl k) ?_
          show OwnGo p e below (T674.setTop (mkF m 364 #[.val (.int x0), .val (.int x1), .val (.int x2)] [(.ref b631), (.ref b631)])) _
          refine own_back (fun t k => XS.bipush X674.here hx rfl (hb hby wd_d364) k) ?_
          show OwnGo p e below (T674.setTop (mkF m 366 #[.val (.int x0), .val (.int x1), .val (.int x2)] [(.int (6 : Int32)), (.ref b631), (.ref b631)])) _
          refine own_back (fun t k => XS.bipush X674.here hx rfl (hb hby wd_d366) k) ?_
          show OwnGo p e below (T674.setTop (mkF m 368 #[.val (.int x0), .val (.int x1), .val (.int x2)] [(.int (100 : Int32)), (.int (6 : Int32)), (.ref b631), (.ref b631)])) _
          obtain ⟨c680, A680, q680, S680, M680, H680, U680⟩ := id V678
          obtain ⟨T681, h681, X681, e681, W681, st681⟩ := stC X674 hx hZ e674 A680 (j := (6 : Int32)) (inb_of S680 ⟨by decide, by decide⟩) (g := (mkF m 368 #[.val (.int x0), .val (.int x1), .val (.int x2)] [(.int (100 : Int32)), (.int (6 : Int32)), (.ref b631), (.ref b631)])) rfl rfl (hb hby wd_d368)
          have O682 := O675.wr W681 ge632
          have KP683 := KP676.wr W681 (Or.inr sz633)
          have Zs684 := Nat.le_trans Zs677 (Keep.of_wr W681).1
          have V685 : Arv Z h681 b631 k631 .char (18 : Int32) [(.int (nar .char (115 : Int32))), (.int (nar .char (116 : Int32))), (.int (nar .char (111 : Int32))), (.int (nar .char (99 : Int32))), (.int (nar .char (107 : Int32))), (.int (nar .char (45 : Int32))), (.int (nar .char (100 : Int32))), (.int (0 : Int32)), (.int (0 : Int32)), (.int (0 : Int32)), (.int (0 : Int32)), (.int (0 : Int32)), (.int (0 : Int32)), (.int (0 : Int32)), (.int (0 : Int32)), (.int (0 : Int32)), (.int (0 : Int32)), (.int (0 : Int32))] (.int (0 : Int32)) := Arv.set A680 q680 S680 M680 H680 U680 (fits_nar_char _) W681 6 rfl (Nat.le_of_ble_eq_true rfl)
          have N686 := Fr.snoc X681 N679 ge632
          refine own_back st681 ?_
          show OwnGo p e below (T681.setTop (mkF m 369 #[.val (.int x0), .val (.int x1), .val (.int x2)] [(.ref b631)])) _
          refine own_back (fun t k => XS.dup X681.here hx rfl (hb hby wd_d369) rfl rfl k) ?_
          show OwnGo p e below (T681.setTop (mkF m 370 #[.val (.int x0), .val (.int x1), .val (.int x2)] [(.ref b631), (.ref b631)])) _
          refine own_back (fun t k => XS.bipush X681.here hx rfl (hb hby wd_d370) k) ?_
          show OwnGo p e below (T681.setTop (mkF m 372 #[.val (.int x0), .val (.int x1), .val (.int x2)] [(.int (7 : Int32)), (.ref b631), (.ref b631)])) _
          refine own_back (fun t k => XS.bipush X681.here hx rfl (hb hby wd_d372) k) ?_
          show OwnGo p e below (T681.setTop (mkF m 374 #[.val (.int x0), .val (.int x1), .val (.int x2)] [(.int (105 : Int32)), (.int (7 : Int32)), (.ref b631), (.ref b631)])) _
          obtain ⟨c687, A687, q687, S687, M687, H687, U687⟩ := id V685
          obtain ⟨T688, h688, X688, e688, W688, st688⟩ := stC X681 hx hZ e681 A687 (j := (7 : Int32)) (inb_of S687 ⟨by decide, by decide⟩) (g := (mkF m 374 #[.val (.int x0), .val (.int x1), .val (.int x2)] [(.int (105 : Int32)), (.int (7 : Int32)), (.ref b631), (.ref b631)])) rfl rfl (hb hby wd_d374)
          have O689 := O682.wr W688 ge632
          have KP690 := KP683.wr W688 (Or.inr sz633)
          have Zs691 := Nat.le_trans Zs684 (Keep.of_wr W688).1
          have V692 : Arv Z h688 b631 k631 .char (18 : Int32) [(.int (nar .char (115 : Int32))), (.int (nar .char (116 : Int32))), (.int (nar .char (111 : Int32))), (.int (nar .char (99 : Int32))), (.int (nar .char (107 : Int32))), (.int (nar .char (45 : Int32))), (.int (nar .char (100 : Int32))), (.int (nar .char (105 : Int32))), (.int (0 : Int32)), (.int (0 : Int32)), (.int (0 : Int32)), (.int (0 : Int32)), (.int (0 : Int32)), (.int (0 : Int32)), (.int (0 : Int32)), (.int (0 : Int32)), (.int (0 : Int32)), (.int (0 : Int32))] (.int (0 : Int32)) := Arv.set A687 q687 S687 M687 H687 U687 (fits_nar_char _) W688 7 rfl (Nat.le_of_ble_eq_true rfl)
          have N693 := Fr.snoc X688 N686 ge632
          refine own_back st688 ?_
          show OwnGo p e below (T688.setTop (mkF m 375 #[.val (.int x0), .val (.int x1), .val (.int x2)] [(.ref b631)])) _
          refine own_back (fun t k => XS.dup X688.here hx rfl (hb hby wd_d375) rfl rfl k) ?_
          show OwnGo p e below (T688.setTop (mkF m 376 #[.val (.int x0), .val (.int x1), .val (.int x2)] [(.ref b631), (.ref b631)])) _
          refine own_back (fun t k => XS.bipush X688.here hx rfl (hb hby wd_d376) k) ?_
          show OwnGo p e below (T688.setTop (mkF m 378 #[.val (.int x0), .val (.int x1), .val (.int x2)] [(.int (8 : Int32)), (.ref b631), (.ref b631)])) _
          refine own_back (fun t k => XS.bipush X688.here hx rfl (hb hby wd_d378) k) ?_
          show OwnGo p e below (T688.setTop (mkF m 380 #[.val (.int x0), .val (.int x1), .val (.int x2)] [(.int (115 : Int32)), (.int (8 : Int32)), (.ref b631), (.ref b631)])) _
          obtain ⟨c694, A694, q694, S694, M694, H694, U694⟩ := id V692
          obtain ⟨T695, h695, X695, e695, W695, st695⟩ := stC X688 hx hZ e688 A694 (j := (8 : Int32)) (inb_of S694 ⟨by decide, by decide⟩) (g := (mkF m 380 #[.val (.int x0), .val (.int x1), .val (.int x2)] [(.int (115 : Int32)), (.int (8 : Int32)), (.ref b631), (.ref b631)])) rfl rfl (hb hby wd_d380)
          have O696 := O689.wr W695 ge632
          have KP697 := KP690.wr W695 (Or.inr sz633)
          have Zs698 := Nat.le_trans Zs691 (Keep.of_wr W695).1
          have V699 : Arv Z h695 b631 k631 .char (18 : Int32) [(.int (nar .char (115 : Int32))), (.int (nar .char (116 : Int32))), (.int (nar .char (111 : Int32))), (.int (nar .char (99 : Int32))), (.int (nar .char (107 : Int32))), (.int (nar .char (45 : Int32))), (.int (nar .char (100 : Int32))), (.int (nar .char (105 : Int32))), (.int (nar .char (115 : Int32))), (.int (0 : Int32)), (.int (0 : Int32)), (.int (0 : Int32)), (.int (0 : Int32)), (.int (0 : Int32)), (.int (0 : Int32)), (.int (0 : Int32)), (.int (0 : Int32)), (.int (0 : Int32))] (.int (0 : Int32)) := Arv.set A694 q694 S694 M694 H694 U694 (fits_nar_char _) W695 8 rfl (Nat.le_of_ble_eq_true rfl)
          have N700 := Fr.snoc X695 N693 ge632
          refine own_back st695 ?_
          show OwnGo p e below (T695.setTop (mkF m 381 #[.val (.int x0), .val (.int x1), .val (.int x2)] [(.ref b631)])) _
          refine own_back (fun t k => XS.dup X695.here hx rfl (hb hby wd_d381) rfl rfl k) ?_
          show OwnGo p e below (T695.setTop (mkF m 382 #[.val (.int x0), .val (.int x1), .val (.int x2)] [(.ref b631), (.ref b631)])) _
          refine own_back (fun t k => XS.bipush X695.here hx rfl (hb hby wd_d382) k) ?_
          show OwnGo p e below (T695.setTop (mkF m 384 #[.val (.int x0), .val (.int x1), .val (.int x2)] [(.int (9 : Int32)), (.ref b631), (.ref b631)])) _
          refine own_back (fun t k => XS.bipush X695.here hx rfl (hb hby wd_d384) k) ?_
          show OwnGo p e below (T695.setTop (mkF m 386 #[.val (.int x0), .val (.int x1), .val (.int x2)] [(.int (116 : Int32)), (.int (9 : Int32)), (.ref b631), (.ref b631)])) _
          obtain ⟨c701, A701, q701, S701, M701, H701, U701⟩ := id V699
          obtain ⟨T702, h702, X702, e702, W702, st702⟩ := stC X695 hx hZ e695 A701 (j := (9 : Int32)) (inb_of S701 ⟨by decide, by decide⟩) (g := (mkF m 386 #[.val (.int x0), .val (.int x1), .val (.int x2)] [(.int (116 : Int32)), (.int (9 : Int32)), (.ref b631), (.ref b631)])) rfl rfl (hb hby wd_d386)
          have O703 := O696.wr W702 ge632
          have KP704 := KP697.wr W702 (Or.inr sz633)
          have Zs705 := Nat.le_trans Zs698 (Keep.of_wr W702).1
          have V706 : Arv Z h702 b631 k631 .char (18 : Int32) [(.int (nar .char (115 : Int32))), (.int (nar .char (116 : Int32))), (.int (nar .char (111 : Int32))), (.int (nar .char (99 : Int32))), (.int (nar .char (107 : Int32))), (.int (nar .char (45 : Int32))), (.int (nar .char (100 : Int32))), (.int (nar .char (105 : Int32))), (.int (nar .char (115 : Int32))), (.int (nar .char (116 : Int32))), (.int (0 : Int32)), (.int (0 : Int32)), (.int (0 : Int32)), (.int (0 : Int32)), (.int (0 : Int32)), (.int (0 : Int32)), (.int (0 : Int32)), (.int (0 : Int32))] (.int (0 : Int32)) := Arv.set A701 q701 S701 M701 H701 U701 (fits_nar_char _) W702 9 rfl (Nat.le_of_ble_eq_true rfl)
          have N707 := Fr.snoc X702 N700 ge632
          refine own_back st702 ?_
          show OwnGo p e below (T702.setTop (mkF m 387 #[.val (.int x0), .val (.int x1), .val (.int x2)] [(.ref b631)])) _
          refine own_back (fun t k => XS.dup X702.here hx rfl (hb hby wd_d387) rfl rfl k) ?_
          show OwnGo p e below (T702.setTop (mkF m 388 #[.val (.int x0), .val (.int x1), .val (.int x2)] [(.ref b631), (.ref b631)])) _
          refine own_back (fun t k => XS.bipush X702.here hx rfl (hb hby wd_d388) k) ?_
          show OwnGo p e below (T702.setTop (mkF m 390 #[.val (.int x0), .val (.int x1), .val (.int x2)] [(.int (10 : Int32)), (.ref b631), (.ref b631)])) _
          refine own_back (fun t k => XS.bipush X702.here hx rfl (hb hby wd_d390) k) ?_
          show OwnGo p e below (T702.setTop (mkF m 392 #[.val (.int x0), .val (.int x1), .val (.int x2)] [(.int (114 : Int32)), (.int (10 : Int32)), (.ref b631), (.ref b631)])) _
          obtain ⟨c708, A708, q708, S708, M708, H708, U708⟩ := id V706
          obtain ⟨T709, h709, X709, e709, W709, st709⟩ := stC X702 hx hZ e702 A708 (j := (10 : Int32)) (inb_of S708 ⟨by decide, by decide⟩) (g := (mkF m 392 #[.val (.int x0), .val (.int x1), .val (.int x2)] [(.int (114 : Int32)), (.int (10 : Int32)), (.ref b631), (.ref b631)])) rfl rfl (hb hby wd_d392)
          have O710 := O703.wr W709 ge632
          have KP711 := KP704.wr W709 (Or.inr sz633)
          have Zs712 := Nat.le_trans Zs705 (Keep.of_wr W709).1
          have V713 : Arv Z h709 b631 k631 .char (18 : Int32) [(.int (nar .char (115 : Int32))), (.int (nar .char (116 : Int32))), (.int (nar .char (111 : Int32))), (.int (nar .char (99 : Int32))), (.int (nar .char (107 : Int32))), (.int (nar .char (45 : Int32))), (.int (nar .char (100 : Int32))), (.int (nar .char (105 : Int32))), (.int (nar .char (115 : Int32))), (.int (nar .char (116 : Int32))), (.int (nar .char (114 : Int32))), (.int (0 : Int32)), (.int (0 : Int32)), (.int (0 : Int32)), (.int (0 : Int32)), (.int (0 : Int32)), (.int (0 : Int32)), (.int (0 : Int32))] (.int (0 : Int32)) := Arv.set A708 q708 S708 M708 H708 U708 (fits_nar_char _) W709 10 rfl (Nat.le_of_ble_eq_true rfl)
          have N714 := Fr.snoc X709 N707 ge632
          refine own_back st709 ?_
          show OwnGo p e below (T709.setTop (mkF m 393 #[.val (.int x0), .val (.int x1), .val (.int x2)] [(.ref b631)])) _
          refine own_back (fun t k => XS.dup X709.here hx rfl (hb hby wd_d393) rfl rfl k) ?_
          show OwnGo p e below (T709.setTop (mkF m 394 #[.val (.int x0), .val (.int x1), .val (.int x2)] [(.ref b631), (.ref b631)])) _
          refine own_back (fun t k => XS.bipush X709.here hx rfl (hb hby wd_d394) k) ?_
          show OwnGo p e below (T709.setTop (mkF m 396 #[.val (.int x0), .val (.int x1), .val (.int x2)] [(.int (11 : Int32)), (.ref b631), (.ref b631)])) _
          refine own_back (fun t k => XS.bipush X709.here hx rfl (hb hby wd_d396) k) ?_
          show OwnGo p e below (T709.setTop (mkF m 398 #[.val (.int x0), .val (.int x1), .val (.int x2)] [(.int (105 : Int32)), (.int (11 : Int32)), (.ref b631), (.ref b631)])) _
          obtain ⟨c715, A715, q715, S715, M715, H715, U715⟩ := id V713
          obtain ⟨T716, h716, X716, e716, W716, st716⟩ := stC X709 hx hZ e709 A715 (j := (11 : Int32)) (inb_of S715 ⟨by decide, by decide⟩) (g := (mkF m 398 #[.val (.int x0), .val (.int x1), .val (.int x2)] [(.int (105 : Int32)), (.int (11 : Int32)), (.ref b631), (.ref b631)])) rfl rfl (hb hby wd_d398)
          have O717 := O710.wr W716 ge632
          have KP718 := KP711.wr W716 (Or.inr sz633)
          have Zs719 := Nat.le_trans Zs712 (Keep.of_wr W716).1
          have V720 : Arv Z h716 b631 k631 .char (18 : Int32) [(.int (nar .char (115 : Int32))), (.int (nar .char (116 : Int32))), (.int (nar .char (111 : Int32))), (.int (nar .char (99 : Int32))), (.int (nar .char (107 : Int32))), (.int (nar .char (45 : Int32))), (.int (nar .char (100 : Int32))), (.int (nar .char (105 : Int32))), (.int (nar .char (115 : Int32))), (.int (nar .char (116 : Int32))), (.int (nar .char (114 : Int32))), (.int (nar .char (105 : Int32))), (.int (0 : Int32)), (.int (0 : Int32)), (.int (0 : Int32)), (.int (0 : Int32)), (.int (0 : Int32)), (.int (0 : Int32))] (.int (0 : Int32)) := Arv.set A715 q715 S715 M715 H715 U715 (fits_nar_char _) W716 11 rfl (Nat.le_of_ble_eq_true rfl)
          have N721 := Fr.snoc X716 N714 ge632
          refine own_back st716 ?_
          show OwnGo p e below (T716.setTop (mkF m 399 #[.val (.int x0), .val (.int x1), .val (.int x2)] [(.ref b631)])) _
          refine own_back (fun t k => XS.dup X716.here hx rfl (hb hby wd_d399) rfl rfl k) ?_
          show OwnGo p e below (T716.setTop (mkF m 400 #[.val (.int x0), .val (.int x1), .val (.int x2)] [(.ref b631), (.ref b631)])) _
          refine own_back (fun t k => XS.bipush X716.here hx rfl (hb hby wd_d400) k) ?_
          show OwnGo p e below (T716.setTop (mkF m 402 #[.val (.int x0), .val (.int x1), .val (.int x2)] [(.int (12 : Int32)), (.ref b631), (.ref b631)])) _
          refine own_back (fun t k => XS.bipush X716.here hx rfl (hb hby wd_d402) k) ?_
          show OwnGo p e below (T716.setTop (mkF m 404 #[.val (.int x0), .val (.int x1), .val (.int x2)] [(.int (98 : Int32)), (.int (12 : Int32)), (.ref b631), (.ref b631)])) _
          obtain ⟨c722, A722, q722, S722, M722, H722, U722⟩ := id V720
          obtain ⟨T723, h723, X723, e723, W723, st723⟩ := stC X716 hx hZ e716 A722 (j := (12 : Int32)) (inb_of S722 ⟨by decide, by decide⟩) (g := (mkF m 404 #[.val (.int x0), .val (.int x1), .val (.int x2)] [(.int (98 : Int32)), (.int (12 : Int32)), (.ref b631), (.ref b631)])) rfl rfl (hb hby wd_d404)
          have O724 := O717.wr W723 ge632
          have KP725 := KP718.wr W723 (Or.inr sz633)
          have Zs726 := Nat.le_trans Zs719 (Keep.of_wr W723).1
          have V727 : Arv Z h723 b631 k631 .char (18 : Int32) [(.int (nar .char (115 : Int32))), (.int (nar .char (116 : Int32))), (.int (nar .char (111 : Int32))), (.int (nar .char (99 : Int32))), (.int (nar .char (107 : Int32))), (.int (nar .char (45 : Int32))), (.int (nar .char (100 : Int32))), (.int (nar .char (105 : Int32))), (.int (nar .char (115 : Int32))), (.int (nar .char (116 : Int32))), (.int (nar .char (114 : Int32))), (.int (nar .char (105 : Int32))), (.int (nar .char (98 : Int32))), (.int (0 : Int32)), (.int (0 : Int32)), (.int (0 : Int32)), (.int (0 : Int32)), (.int (0 : Int32))] (.int (0 : Int32)) := Arv.set A722 q722 S722 M722 H722 U722 (fits_nar_char _) W723 12 rfl (Nat.le_of_ble_eq_true rfl)
          have N728 := Fr.snoc X723 N721 ge632
          refine own_back st723 ?_
          show OwnGo p e below (T723.setTop (mkF m 405 #[.val (.int x0), .val (.int x1), .val (.int x2)] [(.ref b631)])) _
          refine own_back (fun t k => XS.dup X723.here hx rfl (hb hby wd_d405) rfl rfl k) ?_
          show OwnGo p e below (T723.setTop (mkF m 406 #[.val (.int x0), .val (.int x1), .val (.int x2)] [(.ref b631), (.ref b631)])) _
          refine own_back (fun t k => XS.bipush X723.here hx rfl (hb hby wd_d406) k) ?_
          show OwnGo p e below (T723.setTop (mkF m 408 #[.val (.int x0), .val (.int x1), .val (.int x2)] [(.int (13 : Int32)), (.ref b631), (.ref b631)])) _
          refine own_back (fun t k => XS.bipush X723.here hx rfl (hb hby wd_d408) k) ?_
          show OwnGo p e below (T723.setTop (mkF m 410 #[.val (.int x0), .val (.int x1), .val (.int x2)] [(.int (117 : Int32)), (.int (13 : Int32)), (.ref b631), (.ref b631)])) _
          obtain ⟨c729, A729, q729, S729, M729, H729, U729⟩ := id V727
          obtain ⟨T730, h730, X730, e730, W730, st730⟩ := stC X723 hx hZ e723 A729 (j := (13 : Int32)) (inb_of S729 ⟨by decide, by decide⟩) (g := (mkF m 410 #[.val (.int x0), .val (.int x1), .val (.int x2)] [(.int (117 : Int32)), (.int (13 : Int32)), (.ref b631), (.ref b631)])) rfl rfl (hb hby wd_d410)
          have O731 := O724.wr W730 ge632
          have KP732 := KP725.wr W730 (Or.inr sz633)
          have Zs733 := Nat.le_trans Zs726 (Keep.of_wr W730).1
          have V734 : Arv Z h730 b631 k631 .char (18 : Int32) [(.int (nar .char (115 : Int32))), (.int (nar .char (116 : Int32))), (.int (nar .char (111 : Int32))), (.int (nar .char (99 : Int32))), (.int (nar .char (107 : Int32))), (.int (nar .char (45 : Int32))), (.int (nar .char (100 : Int32))), (.int (nar .char (105 : Int32))), (.int (nar .char (115 : Int32))), (.int (nar .char (116 : Int32))), (.int (nar .char (114 : Int32))), (.int (nar .char (105 : Int32))), (.int (nar .char (98 : Int32))), (.int (nar .char (117 : Int32))), (.int (0 : Int32)), (.int (0 : Int32)), (.int (0 : Int32)), (.int (0 : Int32))] (.int (0 : Int32)) := Arv.set A729 q729 S729 M729 H729 U729 (fits_nar_char _) W730 13 rfl (Nat.le_of_ble_eq_true rfl)
          have N735 := Fr.snoc X730 N728 ge632
          refine own_back st730 ?_
          show OwnGo p e below (T730.setTop (mkF m 411 #[.val (.int x0), .val (.int x1), .val (.int x2)] [(.ref b631)])) _
          refine own_back (fun t k => XS.dup X730.here hx rfl (hb hby wd_d411) rfl rfl k) ?_
          show OwnGo p e below (T730.setTop (mkF m 412 #[.val (.int x0), .val (.int x1), .val (.int x2)] [(.ref b631), (.ref b631)])) _
          refine own_back (fun t k => XS.bipush X730.here hx rfl (hb hby wd_d412) k) ?_
          show OwnGo p e below (T730.setTop (mkF m 414 #[.val (.int x0), .val (.int x1), .val (.int x2)] [(.int (14 : Int32)), (.ref b631), (.ref b631)])) _
          refine own_back (fun t k => XS.bipush X730.here hx rfl (hb hby wd_d414) k) ?_
          show OwnGo p e below (T730.setTop (mkF m 416 #[.val (.int x0), .val (.int x1), .val (.int x2)] [(.int (116 : Int32)), (.int (14 : Int32)), (.ref b631), (.ref b631)])) _
          obtain ⟨c736, A736, q736, S736, M736, H736, U736⟩ := id V734
          obtain ⟨T737, h737, X737, e737, W737, st737⟩ := stC X730 hx hZ e730 A736 (j := (14 : Int32)) (inb_of S736 ⟨by decide, by decide⟩) (g := (mkF m 416 #[.val (.int x0), .val (.int x1), .val (.int x2)] [(.int (116 : Int32)), (.int (14 : Int32)), (.ref b631), (.ref b631)])) rfl rfl (hb hby wd_d416)
          have O738 := O731.wr W737 ge632
          have KP739 := KP732.wr W737 (Or.inr sz633)
          have Zs740 := Nat.le_trans Zs733 (Keep.of_wr W737).1
          have V741 : Arv Z h737 b631 k631 .char (18 : Int32) [(.int (nar .char (115 : Int32))), (.int (nar .char (116 : Int32))), (.int (nar .char (111 : Int32))), (.int (nar .char (99 : Int32))), (.int (nar .char (107 : Int32))), (.int (nar .char (45 : Int32))), (.int (nar .char (100 : Int32))), (.int (nar .char (105 : Int32))), (.int (nar .char (115 : Int32))), (.int (nar .char (116 : Int32))), (.int (nar .char (114 : Int32))), (.int (nar .char (105 : Int32))), (.int (nar .char (98 : Int32))), (.int (nar .char (117 : Int32))), (.int (nar .char (116 : Int32))), (.int (0 : Int32)), (.int (0 : Int32)), (.int (0 : Int32))] (.int (0 : Int32)) := Arv.set A736 q736 S736 M736 H736 U736 (fits_nar_char _) W737 14 rfl (Nat.le_of_ble_eq_true rfl)
          have N742 := Fr.snoc X737 N735 ge632
          refine own_back st737 ?_
          show OwnGo p e below (T737.setTop (mkF m 417 #[.val (.int x0), .val (.int x1), .val (.int x2)] [(.ref b631)])) _
          refine own_back (fun t k => XS.dup X737.here hx rfl (hb hby wd_d417) rfl rfl k) ?_
          show OwnGo p e below (T737.setTop (mkF m 418 #[.val (.int x0), .val (.int x1), .val (.int x2)] [(.ref b631), (.ref b631)])) _
          refine own_back (fun t k => XS.bipush X737.here hx rfl (hb hby wd_d418) k) ?_
          show OwnGo p e below (T737.setTop (mkF m 420 #[.val (.int x0), .val (.int x1), .val (.int x2)] [(.int (15 : Int32)), (.ref b631), (.ref b631)])) _
          refine own_back (fun t k => XS.bipush X737.here hx rfl (hb hby wd_d420) k) ?_
          show OwnGo p e below (T737.setTop (mkF m 422 #[.val (.int x0), .val (.int x1), .val (.int x2)] [(.int (105 : Int32)), (.int (15 : Int32)), (.ref b631), (.ref b631)])) _
          obtain ⟨c743, A743, q743, S743, M743, H743, U743⟩ := id V741
          obtain ⟨T744, h744, X744, e744, W744, st744⟩ := stC X737 hx hZ e737 A743 (j := (15 : Int32)) (inb_of S743 ⟨by decide, by decide⟩) (g := (mkF m 422 #[.val (.int x0), .val (.int x1), .val (.int x2)] [(.int (105 : Int32)), (.int (15 : Int32)), (.ref b631), (.ref b631)])) rfl rfl (hb hby wd_d422)
          have O745 := O738.wr W744 ge632
          have KP746 := KP739.wr W744 (Or.inr sz633)
          have Zs747 := Nat.le_trans Zs740 (Keep.of_wr W744).1
          have V748 : Arv Z h744 b631 k631 .char (18 : Int32) [(.int (nar .char (115 : Int32))), (.int (nar .char (116 : Int32))), (.int (nar .char (111 : Int32))), (.int (nar .char (99 : Int32))), (.int (nar .char (107 : Int32))), (.int (nar .char (45 : Int32))), (.int (nar .char (100 : Int32))), (.int (nar .char (105 : Int32))), (.int (nar .char (115 : Int32))), (.int (nar .char (116 : Int32))), (.int (nar .char (114 : Int32))), (.int (nar .char (105 : Int32))), (.int (nar .char (98 : Int32))), (.int (nar .char (117 : Int32))), (.int (nar .char (116 : Int32))), (.int (nar .char (105 : Int32))), (.int (0 : Int32)), (.int (0 : Int32))] (.int (0 : Int32)) := Arv.set A743 q743 S743 M743 H743 U743 (fits_nar_char _) W744 15 rfl (Nat.le_of_ble_eq_true rfl)
          have N749 := Fr.snoc X744 N742 ge632
          refine own_back st744 ?_
          show OwnGo p e below (T744.setTop (mkF m 423 #[.val (.int x0), .val (.int x1), .val (.int x2)] [(.ref b631)])) _
          refine own_back (fun t k => XS.dup X744.here hx rfl (hb hby wd_d423) rfl rfl k) ?_
          show OwnGo p e below (T744.setTop (mkF m 424 #[.val (.int x0), .val (.int x1), .val (.int x2)] [(.ref b631), (.ref b631)])) _
          refine own_back (fun t k => XS.bipush X744.here hx rfl (hb hby wd_d424) k) ?_
          show OwnGo p e below (T744.setTop (mkF m 426 #[.val (.int x0), .val (.int x1), .val (.int x2)] [(.int (16 : Int32)), (.ref b631), (.ref b631)])) _
          refine own_back (fun t k => XS.bipush X744.here hx rfl (hb hby wd_d426) k) ?_
          show OwnGo p e below (T744.setTop (mkF m 428 #[.val (.int x0), .val (.int x1), .val (.int x2)] [(.int (111 : Int32)), (.int (16 : Int32)), (.ref b631), (.ref b631)])) _
          obtain ⟨c750, A750, q750, S750, M750, H750, U750⟩ := id V748
          obtain ⟨T751, h751, X751, e751, W751, st751⟩ := stC X744 hx hZ e744 A750 (j := (16 : Int32)) (inb_of S750 ⟨by decide, by decide⟩) (g := (mkF m 428 #[.val (.int x0), .val (.int x1), .val (.int x2)] [(.int (111 : Int32)), (.int (16 : Int32)), (.ref b631), (.ref b631)])) rfl rfl (hb hby wd_d428)
          have O752 := O745.wr W751 ge632
          have KP753 := KP746.wr W751 (Or.inr sz633)
          have Zs754 := Nat.le_trans Zs747 (Keep.of_wr W751).1
          have V755 : Arv Z h751 b631 k631 .char (18 : Int32) [(.int (nar .char (115 : Int32))), (.int (nar .char (116 : Int32))), (.int (nar .char (111 : Int32))), (.int (nar .char (99 : Int32))), (.int (nar .char (107 : Int32))), (.int (nar .char (45 : Int32))), (.int (nar .char (100 : Int32))), (.int (nar .char (105 : Int32))), (.int (nar .char (115 : Int32))), (.int (nar .char (116 : Int32))), (.int (nar .char (114 : Int32))), (.int (nar .char (105 : Int32))), (.int (nar .char (98 : Int32))), (.int (nar .char (117 : Int32))), (.int (nar .char (116 : Int32))), (.int (nar .char (105 : Int32))), (.int (nar .char (111 : Int32))), (.int (0 : Int32))] (.int (0 : Int32)) := Arv.set A750 q750 S750 M750 H750 U750 (fits_nar_char _) W751 16 rfl (Nat.le_of_ble_eq_true rfl)
          have N756 := Fr.snoc X751 N749 ge632
          refine own_back st751 ?_
          show OwnGo p e below (T751.setTop (mkF m 429 #[.val (.int x0), .val (.int x1), .val (.int x2)] [(.ref b631)])) _
          refine own_back (fun t k => XS.dup X751.here hx rfl (hb hby wd_d429) rfl rfl k) ?_
          show OwnGo p e below (T751.setTop (mkF m 430 #[.val (.int x0), .val (.int x1), .val (.int x2)] [(.ref b631), (.ref b631)])) _
          refine own_back (fun t k => XS.bipush X751.here hx rfl (hb hby wd_d430) k) ?_
          show OwnGo p e below (T751.setTop (mkF m 432 #[.val (.int x0), .val (.int x1), .val (.int x2)] [(.int (17 : Int32)), (.ref b631), (.ref b631)])) _
          refine own_back (fun t k => XS.bipush X751.here hx rfl (hb hby wd_d432) k) ?_
          show OwnGo p e below (T751.setTop (mkF m 434 #[.val (.int x0), .val (.int x1), .val (.int x2)] [(.int (110 : Int32)), (.int (17 : Int32)), (.ref b631), (.ref b631)])) _
          obtain ⟨c757, A757, q757, S757, M757, H757, U757⟩ := id V755
          obtain ⟨T758, h758, X758, e758, W758, st758⟩ := stC X751 hx hZ e751 A757 (j := (17 : Int32)) (inb_of S757 ⟨by decide, by decide⟩) (g := (mkF m 434 #[.val (.int x0), .val (.int x1), .val (.int x2)] [(.int (110 : Int32)), (.int (17 : Int32)), (.ref b631), (.ref b631)])) rfl rfl (hb hby wd_d434)
          have O759 := O752.wr W758 ge632
          have KP760 := KP753.wr W758 (Or.inr sz633)
          have Zs761 := Nat.le_trans Zs754 (Keep.of_wr W758).1
          have V762 : Arv Z h758 b631 k631 .char (18 : Int32) [(.int (nar .char (115 : Int32))), (.int (nar .char (116 : Int32))), (.int (nar .char (111 : Int32))), (.int (nar .char (99 : Int32))), (.int (nar .char (107 : Int32))), (.int (nar .char (45 : Int32))), (.int (nar .char (100 : Int32))), (.int (nar .char (105 : Int32))), (.int (nar .char (115 : Int32))), (.int (nar .char (116 : Int32))), (.int (nar .char (114 : Int32))), (.int (nar .char (105 : Int32))), (.int (nar .char (98 : Int32))), (.int (nar .char (117 : Int32))), (.int (nar .char (116 : Int32))), (.int (nar .char (105 : Int32))), (.int (nar .char (111 : Int32))), (.int (nar .char (110 : Int32)))] (.int (0 : Int32)) := Arv.set A757 q757 S757 M757 H757 U757 (fits_nar_char _) W758 17 rfl (Nat.le_of_ble_eq_true rfl)
          have N763 := Fr.snoc X758 N756 ge632
          refine own_back st758 ?_
          show OwnGo p e below (T758.setTop (mkF m 435 #[.val (.int x0), .val (.int x1), .val (.int x2)] [(.ref b631)])) _
          refine own_retA X758 hx Bd.notSynchronized Bd.returns rfl rfl (hb hby wd_d435) e758 (Nat.le_of_ble_eq_true rfl) (Nat.le_of_ble_eq_true rfl) ?_
          exact ⟨b631, _, [(nar .char (115 : Int32)), (nar .char (116 : Int32)), (nar .char (111 : Int32)), (nar .char (99 : Int32)), (nar .char (107 : Int32)), (nar .char (45 : Int32)), (nar .char (100 : Int32)), (nar .char (105 : Int32)), (nar .char (115 : Int32)), (nar .char (116 : Int32)), (nar .char (114 : Int32)), (nar .char (105 : Int32)), (nar .char (98 : Int32)), (nar .char (117 : Int32)), (nar .char (116 : Int32)), (nar .char (105 : Int32)), (nar .char (111 : Int32)), (nar .char (110 : Int32))], rfl, N763, own_ext KP760, V762, sz633, (own_allS (OwnCh.of (by decide)) (own_allS (OwnCh.of (by decide)) (own_allS (OwnCh.of (by decide)) (own_allS (OwnCh.of (by decide)) (own_allS (OwnCh.of (by decide)) (own_allS (OwnCh.of (by decide)) (own_allS (OwnCh.of (by decide)) (own_allS (OwnCh.of (by decide)) (own_allS (OwnCh.of (by decide)) (own_allS (OwnCh.of (by decide)) (own_allS (OwnCh.of (by decide)) (own_allS (OwnCh.of (by decide)) (own_allS (OwnCh.of (by decide)) (own_allS (OwnCh.of (by decide)) (own_allS (OwnCh.of (by decide)) (own_allS (OwnCh.of (by decide)) (own_allS (OwnCh.of (by decide)) (own_allS (OwnCh.of (by decide)) own_all0)))))))))))))))))), Nat.le_of_ble_eq_true rfl, Nat.le_of_ble_eq_true rfl⟩
    · refine own_back (fun t k => XS.icmpYes X0.here hx rfl (pc0 := 103) (pc' := 436) rfl (hb hby wd_d103) rfl (Jvm.Free.XT.ii_ne_t hc103_362) (by decide) (by decide) k) ?_
      show OwnGo p e below (s₁.setTop (mkF m 436 #[.val (.int x0), .val (.int x1), .val (.int x2)] [])) _
      refine own_back (fun t k => XS.iloadN X0.here hx rfl (hb hby wd_d436) rfl k) ?_
      show OwnGo p e below (s₁.setTop (mkF m 437 #[.val (.int x0), .val (.int x1), .val (.int x2)] [(.int x1)])) _
      refine own_back (fun t k => XS.iconst X0.here hx rfl (hb hby wd_d437) k) ?_
      show OwnGo p e below (s₁.setTop (mkF m 438 #[.val (.int x0), .val (.int x1), .val (.int x2)] [(.int (1 : Int32)), (.int x1)])) _
      by_cases hc438_764 : x1 = (1 : Int32)
      · refine own_back (fun t k => XS.icmpNo X0.here hx rfl (hb hby wd_d438) rfl (Jvm.Free.XT.ii_ne_f hc438_764) k) ?_
        show OwnGo p e below (s₁.setTop (mkF m 441 #[.val (.int x0), .val (.int x1), .val (.int x2)] [])) _
        refine own_back (fun t k => XS.bipush X0.here hx rfl (hb hby wd_d441) k) ?_
        show OwnGo p e below (s₁.setTop (mkF m 443 #[.val (.int x0), .val (.int x1), .val (.int x2)] [(.int (13 : Int32))])) _
        obtain ⟨T765, h765, k765, X765, e765, E765, A765, st765⟩ := newP X0 hx hZ (hw _ (List.mem_of_getElem? (i := 5) rfl)) e0 (g := (mkF m 443 #[.val (.int x0), .val (.int x1), .val (.int x2)] [(.int (13 : Int32))])) rfl (hb hby wd_d443) rfl (by decide) (cap := 13) (by decide) (by decide) (Nat.le_of_ble_eq_true rfl) (Nat.le_of_ble_eq_true rfl)
        obtain ⟨b765, g765⟩ : ∃ z, z = h0.size := ⟨_, rfl⟩
        have ge766 : n0 ≤ b765 := Nat.le_trans Z0 (Nat.le_of_eq g765.symm)
        have sz767 : h0.size ≤ b765 := Nat.le_trans KP0.1 (Nat.le_of_eq g765.symm)
        rw [← g765] at A765 st765
        have O768 := OL.ext E765
        have KP769 := KP0.ext E765
        have Zs770 := Nat.le_trans Z0 E765.1
        have V771 : Arv Z h765 b765 k765 .char (13 : Int32) [(.int (0 : Int32)), (.int (0 : Int32)), (.int (0 : Int32)), (.int (0 : Int32)), (.int (0 : Int32)), (.int (0 : Int32)), (.int (0 : Int32)), (.int (0 : Int32)), (.int (0 : Int32)), (.int (0 : Int32)), (.int (0 : Int32)), (.int (0 : Int32)), (.int (0 : Int32))] (.int (0 : Int32)) := (Arv.new A765 (by decide)).pad (pad_rep [] (.int (0 : Int32)) 13)
        refine own_back st765 ?_
        show OwnGo p e below (T765.setTop (mkF m 445 #[.val (.int x0), .val (.int x1), .val (.int x2)] [(.ref b765)])) _
        refine own_back (fun t k => XS.dup X765.here hx rfl (hb hby wd_d445) rfl rfl k) ?_
        show OwnGo p e below (T765.setTop (mkF m 446 #[.val (.int x0), .val (.int x1), .val (.int x2)] [(.ref b765), (.ref b765)])) _
        refine own_back (fun t k => XS.iconst X765.here hx rfl (hb hby wd_d446) k) ?_
        show OwnGo p e below (T765.setTop (mkF m 447 #[.val (.int x0), .val (.int x1), .val (.int x2)] [(.int (0 : Int32)), (.ref b765), (.ref b765)])) _
        refine own_back (fun t k => XS.bipush X765.here hx rfl (hb hby wd_d447) k) ?_
        show OwnGo p e below (T765.setTop (mkF m 449 #[.val (.int x0), .val (.int x1), .val (.int x2)] [(.int (114 : Int32)), (.int (0 : Int32)), (.ref b765), (.ref b765)])) _
        obtain ⟨c772, A772, q772, S772, M772, H772, U772⟩ := id V771
        obtain ⟨T773, h773, X773, e773, W773, st773⟩ := stC X765 hx hZ e765 A772 (j := (0 : Int32)) (inb_of S772 ⟨by decide, by decide⟩) (g := (mkF m 449 #[.val (.int x0), .val (.int x1), .val (.int x2)] [(.int (114 : Int32)), (.int (0 : Int32)), (.ref b765), (.ref b765)])) rfl rfl (hb hby wd_d449)
        have O774 := O768.wr W773 ge766
        have KP775 := KP769.wr W773 (Or.inr sz767)
        have Zs776 := Nat.le_trans Zs770 (Keep.of_wr W773).1
        have V777 : Arv Z h773 b765 k765 .char (13 : Int32) [(.int (nar .char (114 : Int32))), (.int (0 : Int32)), (.int (0 : Int32)), (.int (0 : Int32)), (.int (0 : Int32)), (.int (0 : Int32)), (.int (0 : Int32)), (.int (0 : Int32)), (.int (0 : Int32)), (.int (0 : Int32)), (.int (0 : Int32)), (.int (0 : Int32)), (.int (0 : Int32))] (.int (0 : Int32)) := Arv.set A772 q772 S772 M772 H772 U772 (fits_nar_char _) W773 0 rfl (Nat.le_of_ble_eq_true rfl)
        have N778 := Fr.snoc X773 N0 ge766
        refine own_back st773 ?_
        show OwnGo p e below (T773.setTop (mkF m 450 #[.val (.int x0), .val (.int x1), .val (.int x2)] [(.ref b765)])) _
        refine own_back (fun t k => XS.dup X773.here hx rfl (hb hby wd_d450) rfl rfl k) ?_
        show OwnGo p e below (T773.setTop (mkF m 451 #[.val (.int x0), .val (.int x1), .val (.int x2)] [(.ref b765), (.ref b765)])) _
        refine own_back (fun t k => XS.iconst X773.here hx rfl (hb hby wd_d451) k) ?_
        show OwnGo p e below (T773.setTop (mkF m 452 #[.val (.int x0), .val (.int x1), .val (.int x2)] [(.int (1 : Int32)), (.ref b765), (.ref b765)])) _
        refine own_back (fun t k => XS.bipush X773.here hx rfl (hb hby wd_d452) k) ?_
        show OwnGo p e below (T773.setTop (mkF m 454 #[.val (.int x0), .val (.int x1), .val (.int x2)] [(.int (105 : Int32)), (.int (1 : Int32)), (.ref b765), (.ref b765)])) _
        obtain ⟨c779, A779, q779, S779, M779, H779, U779⟩ := id V777
        obtain ⟨T780, h780, X780, e780, W780, st780⟩ := stC X773 hx hZ e773 A779 (j := (1 : Int32)) (inb_of S779 ⟨by decide, by decide⟩) (g := (mkF m 454 #[.val (.int x0), .val (.int x1), .val (.int x2)] [(.int (105 : Int32)), (.int (1 : Int32)), (.ref b765), (.ref b765)])) rfl rfl (hb hby wd_d454)
        have O781 := O774.wr W780 ge766
        have KP782 := KP775.wr W780 (Or.inr sz767)
        have Zs783 := Nat.le_trans Zs776 (Keep.of_wr W780).1
        have V784 : Arv Z h780 b765 k765 .char (13 : Int32) [(.int (nar .char (114 : Int32))), (.int (nar .char (105 : Int32))), (.int (0 : Int32)), (.int (0 : Int32)), (.int (0 : Int32)), (.int (0 : Int32)), (.int (0 : Int32)), (.int (0 : Int32)), (.int (0 : Int32)), (.int (0 : Int32)), (.int (0 : Int32)), (.int (0 : Int32)), (.int (0 : Int32))] (.int (0 : Int32)) := Arv.set A779 q779 S779 M779 H779 U779 (fits_nar_char _) W780 1 rfl (Nat.le_of_ble_eq_true rfl)
        have N785 := Fr.snoc X780 N778 ge766
        refine own_back st780 ?_
        show OwnGo p e below (T780.setTop (mkF m 455 #[.val (.int x0), .val (.int x1), .val (.int x2)] [(.ref b765)])) _
        refine own_back (fun t k => XS.dup X780.here hx rfl (hb hby wd_d455) rfl rfl k) ?_
        show OwnGo p e below (T780.setTop (mkF m 456 #[.val (.int x0), .val (.int x1), .val (.int x2)] [(.ref b765), (.ref b765)])) _
        refine own_back (fun t k => XS.iconst X780.here hx rfl (hb hby wd_d456) k) ?_
        show OwnGo p e below (T780.setTop (mkF m 457 #[.val (.int x0), .val (.int x1), .val (.int x2)] [(.int (2 : Int32)), (.ref b765), (.ref b765)])) _
        refine own_back (fun t k => XS.bipush X780.here hx rfl (hb hby wd_d457) k) ?_
        show OwnGo p e below (T780.setTop (mkF m 459 #[.val (.int x0), .val (.int x1), .val (.int x2)] [(.int (103 : Int32)), (.int (2 : Int32)), (.ref b765), (.ref b765)])) _
        obtain ⟨c786, A786, q786, S786, M786, H786, U786⟩ := id V784
        obtain ⟨T787, h787, X787, e787, W787, st787⟩ := stC X780 hx hZ e780 A786 (j := (2 : Int32)) (inb_of S786 ⟨by decide, by decide⟩) (g := (mkF m 459 #[.val (.int x0), .val (.int x1), .val (.int x2)] [(.int (103 : Int32)), (.int (2 : Int32)), (.ref b765), (.ref b765)])) rfl rfl (hb hby wd_d459)
        have O788 := O781.wr W787 ge766
        have KP789 := KP782.wr W787 (Or.inr sz767)
        have Zs790 := Nat.le_trans Zs783 (Keep.of_wr W787).1
        have V791 : Arv Z h787 b765 k765 .char (13 : Int32) [(.int (nar .char (114 : Int32))), (.int (nar .char (105 : Int32))), (.int (nar .char (103 : Int32))), (.int (0 : Int32)), (.int (0 : Int32)), (.int (0 : Int32)), (.int (0 : Int32)), (.int (0 : Int32)), (.int (0 : Int32)), (.int (0 : Int32)), (.int (0 : Int32)), (.int (0 : Int32)), (.int (0 : Int32))] (.int (0 : Int32)) := Arv.set A786 q786 S786 M786 H786 U786 (fits_nar_char _) W787 2 rfl (Nat.le_of_ble_eq_true rfl)
        have N792 := Fr.snoc X787 N785 ge766
        refine own_back st787 ?_
        show OwnGo p e below (T787.setTop (mkF m 460 #[.val (.int x0), .val (.int x1), .val (.int x2)] [(.ref b765)])) _
        refine own_back (fun t k => XS.dup X787.here hx rfl (hb hby wd_d460) rfl rfl k) ?_
        show OwnGo p e below (T787.setTop (mkF m 461 #[.val (.int x0), .val (.int x1), .val (.int x2)] [(.ref b765), (.ref b765)])) _
        refine own_back (fun t k => XS.iconst X787.here hx rfl (hb hby wd_d461) k) ?_
        show OwnGo p e below (T787.setTop (mkF m 462 #[.val (.int x0), .val (.int x1), .val (.int x2)] [(.int (3 : Int32)), (.ref b765), (.ref b765)])) _
        refine own_back (fun t k => XS.bipush X787.here hx rfl (hb hby wd_d462) k) ?_
        show OwnGo p e below (T787.setTop (mkF m 464 #[.val (.int x0), .val (.int x1), .val (.int x2)] [(.int (104 : Int32)), (.int (3 : Int32)), (.ref b765), (.ref b765)])) _
        obtain ⟨c793, A793, q793, S793, M793, H793, U793⟩ := id V791
        obtain ⟨T794, h794, X794, e794, W794, st794⟩ := stC X787 hx hZ e787 A793 (j := (3 : Int32)) (inb_of S793 ⟨by decide, by decide⟩) (g := (mkF m 464 #[.val (.int x0), .val (.int x1), .val (.int x2)] [(.int (104 : Int32)), (.int (3 : Int32)), (.ref b765), (.ref b765)])) rfl rfl (hb hby wd_d464)
        have O795 := O788.wr W794 ge766
        have KP796 := KP789.wr W794 (Or.inr sz767)
        have Zs797 := Nat.le_trans Zs790 (Keep.of_wr W794).1
        have V798 : Arv Z h794 b765 k765 .char (13 : Int32) [(.int (nar .char (114 : Int32))), (.int (nar .char (105 : Int32))), (.int (nar .char (103 : Int32))), (.int (nar .char (104 : Int32))), (.int (0 : Int32)), (.int (0 : Int32)), (.int (0 : Int32)), (.int (0 : Int32)), (.int (0 : Int32)), (.int (0 : Int32)), (.int (0 : Int32)), (.int (0 : Int32)), (.int (0 : Int32))] (.int (0 : Int32)) := Arv.set A793 q793 S793 M793 H793 U793 (fits_nar_char _) W794 3 rfl (Nat.le_of_ble_eq_true rfl)
        have N799 := Fr.snoc X794 N792 ge766
        refine own_back st794 ?_
        show OwnGo p e below (T794.setTop (mkF m 465 #[.val (.int x0), .val (.int x1), .val (.int x2)] [(.ref b765)])) _
        refine own_back (fun t k => XS.dup X794.here hx rfl (hb hby wd_d465) rfl rfl k) ?_
        show OwnGo p e below (T794.setTop (mkF m 466 #[.val (.int x0), .val (.int x1), .val (.int x2)] [(.ref b765), (.ref b765)])) _
        refine own_back (fun t k => XS.iconst X794.here hx rfl (hb hby wd_d466) k) ?_
        show OwnGo p e below (T794.setTop (mkF m 467 #[.val (.int x0), .val (.int x1), .val (.int x2)] [(.int (4 : Int32)), (.ref b765), (.ref b765)])) _
        refine own_back (fun t k => XS.bipush X794.here hx rfl (hb hby wd_d467) k) ?_
        show OwnGo p e below (T794.setTop (mkF m 469 #[.val (.int x0), .val (.int x1), .val (.int x2)] [(.int (116 : Int32)), (.int (4 : Int32)), (.ref b765), (.ref b765)])) _
        obtain ⟨c800, A800, q800, S800, M800, H800, U800⟩ := id V798
        obtain ⟨T801, h801, X801, e801, W801, st801⟩ := stC X794 hx hZ e794 A800 (j := (4 : Int32)) (inb_of S800 ⟨by decide, by decide⟩) (g := (mkF m 469 #[.val (.int x0), .val (.int x1), .val (.int x2)] [(.int (116 : Int32)), (.int (4 : Int32)), (.ref b765), (.ref b765)])) rfl rfl (hb hby wd_d469)
        have O802 := O795.wr W801 ge766
        have KP803 := KP796.wr W801 (Or.inr sz767)
        have Zs804 := Nat.le_trans Zs797 (Keep.of_wr W801).1
        have V805 : Arv Z h801 b765 k765 .char (13 : Int32) [(.int (nar .char (114 : Int32))), (.int (nar .char (105 : Int32))), (.int (nar .char (103 : Int32))), (.int (nar .char (104 : Int32))), (.int (nar .char (116 : Int32))), (.int (0 : Int32)), (.int (0 : Int32)), (.int (0 : Int32)), (.int (0 : Int32)), (.int (0 : Int32)), (.int (0 : Int32)), (.int (0 : Int32)), (.int (0 : Int32))] (.int (0 : Int32)) := Arv.set A800 q800 S800 M800 H800 U800 (fits_nar_char _) W801 4 rfl (Nat.le_of_ble_eq_true rfl)
        have N806 := Fr.snoc X801 N799 ge766
        refine own_back st801 ?_
        show OwnGo p e below (T801.setTop (mkF m 470 #[.val (.int x0), .val (.int x1), .val (.int x2)] [(.ref b765)])) _
        refine own_back (fun t k => XS.dup X801.here hx rfl (hb hby wd_d470) rfl rfl k) ?_
        show OwnGo p e below (T801.setTop (mkF m 471 #[.val (.int x0), .val (.int x1), .val (.int x2)] [(.ref b765), (.ref b765)])) _
        refine own_back (fun t k => XS.iconst X801.here hx rfl (hb hby wd_d471) k) ?_
        show OwnGo p e below (T801.setTop (mkF m 472 #[.val (.int x0), .val (.int x1), .val (.int x2)] [(.int (5 : Int32)), (.ref b765), (.ref b765)])) _
        refine own_back (fun t k => XS.bipush X801.here hx rfl (hb hby wd_d472) k) ?_
        show OwnGo p e below (T801.setTop (mkF m 474 #[.val (.int x0), .val (.int x1), .val (.int x2)] [(.int (115 : Int32)), (.int (5 : Int32)), (.ref b765), (.ref b765)])) _
        obtain ⟨c807, A807, q807, S807, M807, H807, U807⟩ := id V805
        obtain ⟨T808, h808, X808, e808, W808, st808⟩ := stC X801 hx hZ e801 A807 (j := (5 : Int32)) (inb_of S807 ⟨by decide, by decide⟩) (g := (mkF m 474 #[.val (.int x0), .val (.int x1), .val (.int x2)] [(.int (115 : Int32)), (.int (5 : Int32)), (.ref b765), (.ref b765)])) rfl rfl (hb hby wd_d474)
        have O809 := O802.wr W808 ge766
        have KP810 := KP803.wr W808 (Or.inr sz767)
        have Zs811 := Nat.le_trans Zs804 (Keep.of_wr W808).1
        have V812 : Arv Z h808 b765 k765 .char (13 : Int32) [(.int (nar .char (114 : Int32))), (.int (nar .char (105 : Int32))), (.int (nar .char (103 : Int32))), (.int (nar .char (104 : Int32))), (.int (nar .char (116 : Int32))), (.int (nar .char (115 : Int32))), (.int (0 : Int32)), (.int (0 : Int32)), (.int (0 : Int32)), (.int (0 : Int32)), (.int (0 : Int32)), (.int (0 : Int32)), (.int (0 : Int32))] (.int (0 : Int32)) := Arv.set A807 q807 S807 M807 H807 U807 (fits_nar_char _) W808 5 rfl (Nat.le_of_ble_eq_true rfl)
        have N813 := Fr.snoc X808 N806 ge766
        refine own_back st808 ?_
        show OwnGo p e below (T808.setTop (mkF m 475 #[.val (.int x0), .val (.int x1), .val (.int x2)] [(.ref b765)])) _
        refine own_back (fun t k => XS.dup X808.here hx rfl (hb hby wd_d475) rfl rfl k) ?_
        show OwnGo p e below (T808.setTop (mkF m 476 #[.val (.int x0), .val (.int x1), .val (.int x2)] [(.ref b765), (.ref b765)])) _
        refine own_back (fun t k => XS.bipush X808.here hx rfl (hb hby wd_d476) k) ?_
        show OwnGo p e below (T808.setTop (mkF m 478 #[.val (.int x0), .val (.int x1), .val (.int x2)] [(.int (6 : Int32)), (.ref b765), (.ref b765)])) _
        refine own_back (fun t k => XS.bipush X808.here hx rfl (hb hby wd_d478) k) ?_
        show OwnGo p e below (T808.setTop (mkF m 480 #[.val (.int x0), .val (.int x1), .val (.int x2)] [(.int (45 : Int32)), (.int (6 : Int32)), (.ref b765), (.ref b765)])) _
        obtain ⟨c814, A814, q814, S814, M814, H814, U814⟩ := id V812
        obtain ⟨T815, h815, X815, e815, W815, st815⟩ := stC X808 hx hZ e808 A814 (j := (6 : Int32)) (inb_of S814 ⟨by decide, by decide⟩) (g := (mkF m 480 #[.val (.int x0), .val (.int x1), .val (.int x2)] [(.int (45 : Int32)), (.int (6 : Int32)), (.ref b765), (.ref b765)])) rfl rfl (hb hby wd_d480)
        have O816 := O809.wr W815 ge766
        have KP817 := KP810.wr W815 (Or.inr sz767)
        have Zs818 := Nat.le_trans Zs811 (Keep.of_wr W815).1
        have V819 : Arv Z h815 b765 k765 .char (13 : Int32) [(.int (nar .char (114 : Int32))), (.int (nar .char (105 : Int32))), (.int (nar .char (103 : Int32))), (.int (nar .char (104 : Int32))), (.int (nar .char (116 : Int32))), (.int (nar .char (115 : Int32))), (.int (nar .char (45 : Int32))), (.int (0 : Int32)), (.int (0 : Int32)), (.int (0 : Int32)), (.int (0 : Int32)), (.int (0 : Int32)), (.int (0 : Int32))] (.int (0 : Int32)) := Arv.set A814 q814 S814 M814 H814 U814 (fits_nar_char _) W815 6 rfl (Nat.le_of_ble_eq_true rfl)
        have N820 := Fr.snoc X815 N813 ge766
        refine own_back st815 ?_
        show OwnGo p e below (T815.setTop (mkF m 481 #[.val (.int x0), .val (.int x1), .val (.int x2)] [(.ref b765)])) _
        refine own_back (fun t k => XS.dup X815.here hx rfl (hb hby wd_d481) rfl rfl k) ?_
        show OwnGo p e below (T815.setTop (mkF m 482 #[.val (.int x0), .val (.int x1), .val (.int x2)] [(.ref b765), (.ref b765)])) _
        refine own_back (fun t k => XS.bipush X815.here hx rfl (hb hby wd_d482) k) ?_
        show OwnGo p e below (T815.setTop (mkF m 484 #[.val (.int x0), .val (.int x1), .val (.int x2)] [(.int (7 : Int32)), (.ref b765), (.ref b765)])) _
        refine own_back (fun t k => XS.bipush X815.here hx rfl (hb hby wd_d484) k) ?_
        show OwnGo p e below (T815.setTop (mkF m 486 #[.val (.int x0), .val (.int x1), .val (.int x2)] [(.int (105 : Int32)), (.int (7 : Int32)), (.ref b765), (.ref b765)])) _
        obtain ⟨c821, A821, q821, S821, M821, H821, U821⟩ := id V819
        obtain ⟨T822, h822, X822, e822, W822, st822⟩ := stC X815 hx hZ e815 A821 (j := (7 : Int32)) (inb_of S821 ⟨by decide, by decide⟩) (g := (mkF m 486 #[.val (.int x0), .val (.int x1), .val (.int x2)] [(.int (105 : Int32)), (.int (7 : Int32)), (.ref b765), (.ref b765)])) rfl rfl (hb hby wd_d486)
        have O823 := O816.wr W822 ge766
        have KP824 := KP817.wr W822 (Or.inr sz767)
        have Zs825 := Nat.le_trans Zs818 (Keep.of_wr W822).1
        have V826 : Arv Z h822 b765 k765 .char (13 : Int32) [(.int (nar .char (114 : Int32))), (.int (nar .char (105 : Int32))), (.int (nar .char (103 : Int32))), (.int (nar .char (104 : Int32))), (.int (nar .char (116 : Int32))), (.int (nar .char (115 : Int32))), (.int (nar .char (45 : Int32))), (.int (nar .char (105 : Int32))), (.int (0 : Int32)), (.int (0 : Int32)), (.int (0 : Int32)), (.int (0 : Int32)), (.int (0 : Int32))] (.int (0 : Int32)) := Arv.set A821 q821 S821 M821 H821 U821 (fits_nar_char _) W822 7 rfl (Nat.le_of_ble_eq_true rfl)
        have N827 := Fr.snoc X822 N820 ge766
        refine own_back st822 ?_
        show OwnGo p e below (T822.setTop (mkF m 487 #[.val (.int x0), .val (.int x1), .val (.int x2)] [(.ref b765)])) _
        refine own_back (fun t k => XS.dup X822.here hx rfl (hb hby wd_d487) rfl rfl k) ?_
        show OwnGo p e below (T822.setTop (mkF m 488 #[.val (.int x0), .val (.int x1), .val (.int x2)] [(.ref b765), (.ref b765)])) _
        refine own_back (fun t k => XS.bipush X822.here hx rfl (hb hby wd_d488) k) ?_
        show OwnGo p e below (T822.setTop (mkF m 490 #[.val (.int x0), .val (.int x1), .val (.int x2)] [(.int (8 : Int32)), (.ref b765), (.ref b765)])) _
        refine own_back (fun t k => XS.bipush X822.here hx rfl (hb hby wd_d490) k) ?_
        show OwnGo p e below (T822.setTop (mkF m 492 #[.val (.int x0), .val (.int x1), .val (.int x2)] [(.int (115 : Int32)), (.int (8 : Int32)), (.ref b765), (.ref b765)])) _
        obtain ⟨c828, A828, q828, S828, M828, H828, U828⟩ := id V826
        obtain ⟨T829, h829, X829, e829, W829, st829⟩ := stC X822 hx hZ e822 A828 (j := (8 : Int32)) (inb_of S828 ⟨by decide, by decide⟩) (g := (mkF m 492 #[.val (.int x0), .val (.int x1), .val (.int x2)] [(.int (115 : Int32)), (.int (8 : Int32)), (.ref b765), (.ref b765)])) rfl rfl (hb hby wd_d492)
        have O830 := O823.wr W829 ge766
        have KP831 := KP824.wr W829 (Or.inr sz767)
        have Zs832 := Nat.le_trans Zs825 (Keep.of_wr W829).1
        have V833 : Arv Z h829 b765 k765 .char (13 : Int32) [(.int (nar .char (114 : Int32))), (.int (nar .char (105 : Int32))), (.int (nar .char (103 : Int32))), (.int (nar .char (104 : Int32))), (.int (nar .char (116 : Int32))), (.int (nar .char (115 : Int32))), (.int (nar .char (45 : Int32))), (.int (nar .char (105 : Int32))), (.int (nar .char (115 : Int32))), (.int (0 : Int32)), (.int (0 : Int32)), (.int (0 : Int32)), (.int (0 : Int32))] (.int (0 : Int32)) := Arv.set A828 q828 S828 M828 H828 U828 (fits_nar_char _) W829 8 rfl (Nat.le_of_ble_eq_true rfl)
        have N834 := Fr.snoc X829 N827 ge766
        refine own_back st829 ?_
        show OwnGo p e below (T829.setTop (mkF m 493 #[.val (.int x0), .val (.int x1), .val (.int x2)] [(.ref b765)])) _
        refine own_back (fun t k => XS.dup X829.here hx rfl (hb hby wd_d493) rfl rfl k) ?_
        show OwnGo p e below (T829.setTop (mkF m 494 #[.val (.int x0), .val (.int x1), .val (.int x2)] [(.ref b765), (.ref b765)])) _
        refine own_back (fun t k => XS.bipush X829.here hx rfl (hb hby wd_d494) k) ?_
        show OwnGo p e below (T829.setTop (mkF m 496 #[.val (.int x0), .val (.int x1), .val (.int x2)] [(.int (9 : Int32)), (.ref b765), (.ref b765)])) _
        refine own_back (fun t k => XS.bipush X829.here hx rfl (hb hby wd_d496) k) ?_
        show OwnGo p e below (T829.setTop (mkF m 498 #[.val (.int x0), .val (.int x1), .val (.int x2)] [(.int (115 : Int32)), (.int (9 : Int32)), (.ref b765), (.ref b765)])) _
        obtain ⟨c835, A835, q835, S835, M835, H835, U835⟩ := id V833
        obtain ⟨T836, h836, X836, e836, W836, st836⟩ := stC X829 hx hZ e829 A835 (j := (9 : Int32)) (inb_of S835 ⟨by decide, by decide⟩) (g := (mkF m 498 #[.val (.int x0), .val (.int x1), .val (.int x2)] [(.int (115 : Int32)), (.int (9 : Int32)), (.ref b765), (.ref b765)])) rfl rfl (hb hby wd_d498)
        have O837 := O830.wr W836 ge766
        have KP838 := KP831.wr W836 (Or.inr sz767)
        have Zs839 := Nat.le_trans Zs832 (Keep.of_wr W836).1
        have V840 : Arv Z h836 b765 k765 .char (13 : Int32) [(.int (nar .char (114 : Int32))), (.int (nar .char (105 : Int32))), (.int (nar .char (103 : Int32))), (.int (nar .char (104 : Int32))), (.int (nar .char (116 : Int32))), (.int (nar .char (115 : Int32))), (.int (nar .char (45 : Int32))), (.int (nar .char (105 : Int32))), (.int (nar .char (115 : Int32))), (.int (nar .char (115 : Int32))), (.int (0 : Int32)), (.int (0 : Int32)), (.int (0 : Int32))] (.int (0 : Int32)) := Arv.set A835 q835 S835 M835 H835 U835 (fits_nar_char _) W836 9 rfl (Nat.le_of_ble_eq_true rfl)
        have N841 := Fr.snoc X836 N834 ge766
        refine own_back st836 ?_
        show OwnGo p e below (T836.setTop (mkF m 499 #[.val (.int x0), .val (.int x1), .val (.int x2)] [(.ref b765)])) _
        refine own_back (fun t k => XS.dup X836.here hx rfl (hb hby wd_d499) rfl rfl k) ?_
        show OwnGo p e below (T836.setTop (mkF m 500 #[.val (.int x0), .val (.int x1), .val (.int x2)] [(.ref b765), (.ref b765)])) _
        refine own_back (fun t k => XS.bipush X836.here hx rfl (hb hby wd_d500) k) ?_
        show OwnGo p e below (T836.setTop (mkF m 502 #[.val (.int x0), .val (.int x1), .val (.int x2)] [(.int (10 : Int32)), (.ref b765), (.ref b765)])) _
        refine own_back (fun t k => XS.bipush X836.here hx rfl (hb hby wd_d502) k) ?_
        show OwnGo p e below (T836.setTop (mkF m 504 #[.val (.int x0), .val (.int x1), .val (.int x2)] [(.int (117 : Int32)), (.int (10 : Int32)), (.ref b765), (.ref b765)])) _
        obtain ⟨c842, A842, q842, S842, M842, H842, U842⟩ := id V840
        obtain ⟨T843, h843, X843, e843, W843, st843⟩ := stC X836 hx hZ e836 A842 (j := (10 : Int32)) (inb_of S842 ⟨by decide, by decide⟩) (g := (mkF m 504 #[.val (.int x0), .val (.int x1), .val (.int x2)] [(.int (117 : Int32)), (.int (10 : Int32)), (.ref b765), (.ref b765)])) rfl rfl (hb hby wd_d504)
        have O844 := O837.wr W843 ge766
        have KP845 := KP838.wr W843 (Or.inr sz767)
        have Zs846 := Nat.le_trans Zs839 (Keep.of_wr W843).1
        have V847 : Arv Z h843 b765 k765 .char (13 : Int32) [(.int (nar .char (114 : Int32))), (.int (nar .char (105 : Int32))), (.int (nar .char (103 : Int32))), (.int (nar .char (104 : Int32))), (.int (nar .char (116 : Int32))), (.int (nar .char (115 : Int32))), (.int (nar .char (45 : Int32))), (.int (nar .char (105 : Int32))), (.int (nar .char (115 : Int32))), (.int (nar .char (115 : Int32))), (.int (nar .char (117 : Int32))), (.int (0 : Int32)), (.int (0 : Int32))] (.int (0 : Int32)) := Arv.set A842 q842 S842 M842 H842 U842 (fits_nar_char _) W843 10 rfl (Nat.le_of_ble_eq_true rfl)
        have N848 := Fr.snoc X843 N841 ge766
        refine own_back st843 ?_
        show OwnGo p e below (T843.setTop (mkF m 505 #[.val (.int x0), .val (.int x1), .val (.int x2)] [(.ref b765)])) _
        refine own_back (fun t k => XS.dup X843.here hx rfl (hb hby wd_d505) rfl rfl k) ?_
        show OwnGo p e below (T843.setTop (mkF m 506 #[.val (.int x0), .val (.int x1), .val (.int x2)] [(.ref b765), (.ref b765)])) _
        refine own_back (fun t k => XS.bipush X843.here hx rfl (hb hby wd_d506) k) ?_
        show OwnGo p e below (T843.setTop (mkF m 508 #[.val (.int x0), .val (.int x1), .val (.int x2)] [(.int (11 : Int32)), (.ref b765), (.ref b765)])) _
        refine own_back (fun t k => XS.bipush X843.here hx rfl (hb hby wd_d508) k) ?_
        show OwnGo p e below (T843.setTop (mkF m 510 #[.val (.int x0), .val (.int x1), .val (.int x2)] [(.int (101 : Int32)), (.int (11 : Int32)), (.ref b765), (.ref b765)])) _
        obtain ⟨c849, A849, q849, S849, M849, H849, U849⟩ := id V847
        obtain ⟨T850, h850, X850, e850, W850, st850⟩ := stC X843 hx hZ e843 A849 (j := (11 : Int32)) (inb_of S849 ⟨by decide, by decide⟩) (g := (mkF m 510 #[.val (.int x0), .val (.int x1), .val (.int x2)] [(.int (101 : Int32)), (.int (11 : Int32)), (.ref b765), (.ref b765)])) rfl rfl (hb hby wd_d510)
        have O851 := O844.wr W850 ge766
        have KP852 := KP845.wr W850 (Or.inr sz767)
        have Zs853 := Nat.le_trans Zs846 (Keep.of_wr W850).1
        have V854 : Arv Z h850 b765 k765 .char (13 : Int32) [(.int (nar .char (114 : Int32))), (.int (nar .char (105 : Int32))), (.int (nar .char (103 : Int32))), (.int (nar .char (104 : Int32))), (.int (nar .char (116 : Int32))), (.int (nar .char (115 : Int32))), (.int (nar .char (45 : Int32))), (.int (nar .char (105 : Int32))), (.int (nar .char (115 : Int32))), (.int (nar .char (115 : Int32))), (.int (nar .char (117 : Int32))), (.int (nar .char (101 : Int32))), (.int (0 : Int32))] (.int (0 : Int32)) := Arv.set A849 q849 S849 M849 H849 U849 (fits_nar_char _) W850 11 rfl (Nat.le_of_ble_eq_true rfl)
        have N855 := Fr.snoc X850 N848 ge766
        refine own_back st850 ?_
        show OwnGo p e below (T850.setTop (mkF m 511 #[.val (.int x0), .val (.int x1), .val (.int x2)] [(.ref b765)])) _
        refine own_back (fun t k => XS.dup X850.here hx rfl (hb hby wd_d511) rfl rfl k) ?_
        show OwnGo p e below (T850.setTop (mkF m 512 #[.val (.int x0), .val (.int x1), .val (.int x2)] [(.ref b765), (.ref b765)])) _
        refine own_back (fun t k => XS.bipush X850.here hx rfl (hb hby wd_d512) k) ?_
        show OwnGo p e below (T850.setTop (mkF m 514 #[.val (.int x0), .val (.int x1), .val (.int x2)] [(.int (12 : Int32)), (.ref b765), (.ref b765)])) _
        refine own_back (fun t k => XS.iloadN X850.here hx rfl (hb hby wd_d514) rfl k) ?_
        show OwnGo p e below (T850.setTop (mkF m 515 #[.val (.int x0), .val (.int x1), .val (.int x2)] [(.int x2), (.int (12 : Int32)), (.ref b765), (.ref b765)])) _
        obtain ⟨c856, A856, q856, S856, M856, H856, U856⟩ := id V854
        obtain ⟨T857, h857, X857, e857, W857, st857⟩ := stC X850 hx hZ e850 A856 (j := (12 : Int32)) (inb_of S856 ⟨by decide, by decide⟩) (g := (mkF m 515 #[.val (.int x0), .val (.int x1), .val (.int x2)] [(.int x2), (.int (12 : Int32)), (.ref b765), (.ref b765)])) rfl rfl (hb hby wd_d515)
        have O858 := O851.wr W857 ge766
        have KP859 := KP852.wr W857 (Or.inr sz767)
        have Zs860 := Nat.le_trans Zs853 (Keep.of_wr W857).1
        have V861 : Arv Z h857 b765 k765 .char (13 : Int32) [(.int (nar .char (114 : Int32))), (.int (nar .char (105 : Int32))), (.int (nar .char (103 : Int32))), (.int (nar .char (104 : Int32))), (.int (nar .char (116 : Int32))), (.int (nar .char (115 : Int32))), (.int (nar .char (45 : Int32))), (.int (nar .char (105 : Int32))), (.int (nar .char (115 : Int32))), (.int (nar .char (115 : Int32))), (.int (nar .char (117 : Int32))), (.int (nar .char (101 : Int32))), (.int (nar .char x2))] (.int (0 : Int32)) := Arv.set A856 q856 S856 M856 H856 U856 (fits_nar_char _) W857 12 rfl (Nat.le_of_ble_eq_true rfl)
        have N862 := Fr.snoc X857 N855 ge766
        refine own_back st857 ?_
        show OwnGo p e below (T857.setTop (mkF m 516 #[.val (.int x0), .val (.int x1), .val (.int x2)] [(.ref b765)])) _
        refine own_retA X857 hx Bd.notSynchronized Bd.returns rfl rfl (hb hby wd_d516) e857 (Nat.le_of_ble_eq_true rfl) (Nat.le_of_ble_eq_true rfl) ?_
        exact ⟨b765, _, [(nar .char (114 : Int32)), (nar .char (105 : Int32)), (nar .char (103 : Int32)), (nar .char (104 : Int32)), (nar .char (116 : Int32)), (nar .char (115 : Int32)), (nar .char (45 : Int32)), (nar .char (105 : Int32)), (nar .char (115 : Int32)), (nar .char (115 : Int32)), (nar .char (117 : Int32)), (nar .char (101 : Int32)), (nar .char x2)], rfl, N862, own_ext KP859, V861, sz767, (own_allS (OwnCh.of (by decide)) (own_allS (OwnCh.of (by decide)) (own_allS (OwnCh.of (by decide)) (own_allS (OwnCh.of (by decide)) (own_allS (OwnCh.of (by decide)) (own_allS (OwnCh.of (by decide)) (own_allS (OwnCh.of (by decide)) (own_allS (OwnCh.of (by decide)) (own_allS (OwnCh.of (by decide)) (own_allS (OwnCh.of (by decide)) (own_allS (OwnCh.of (by decide)) (own_allS (OwnCh.of (by decide)) (own_allS (own_hpn hx2) own_all0))))))))))))), Nat.le_of_ble_eq_true rfl, Nat.le_of_ble_eq_true rfl⟩
      · refine own_back (fun t k => XS.icmpYes X0.here hx rfl (pc0 := 438) (pc' := 517) rfl (hb hby wd_d438) rfl (Jvm.Free.XT.ii_ne_t hc438_764) (by decide) (by decide) k) ?_
        show OwnGo p e below (s₁.setTop (mkF m 517 #[.val (.int x0), .val (.int x1), .val (.int x2)] [])) _
        refine own_back (fun t k => XS.iloadN X0.here hx rfl (hb hby wd_d517) rfl k) ?_
        show OwnGo p e below (s₁.setTop (mkF m 518 #[.val (.int x0), .val (.int x1), .val (.int x2)] [(.int x1)])) _
        refine own_back (fun t k => XS.iconst X0.here hx rfl (hb hby wd_d518) k) ?_
        show OwnGo p e below (s₁.setTop (mkF m 519 #[.val (.int x0), .val (.int x1), .val (.int x2)] [(.int (2 : Int32)), (.int x1)])) _
        by_cases hc519_863 : x1 = (2 : Int32)
        · refine own_back (fun t k => XS.icmpNo X0.here hx rfl (hb hby wd_d519) rfl (Jvm.Free.XT.ii_ne_f hc519_863) k) ?_
          show OwnGo p e below (s₁.setTop (mkF m 522 #[.val (.int x0), .val (.int x1), .val (.int x2)] [])) _
          refine own_back (fun t k => XS.bipush X0.here hx rfl (hb hby wd_d522) k) ?_
          show OwnGo p e below (s₁.setTop (mkF m 524 #[.val (.int x0), .val (.int x1), .val (.int x2)] [(.int (11 : Int32))])) _
          obtain ⟨T864, h864, k864, X864, e864, E864, A864, st864⟩ := newP X0 hx hZ (hw _ (List.mem_of_getElem? (i := 5) rfl)) e0 (g := (mkF m 524 #[.val (.int x0), .val (.int x1), .val (.int x2)] [(.int (11 : Int32))])) rfl (hb hby wd_d524) rfl (by decide) (cap := 11) (by decide) (by decide) (Nat.le_of_ble_eq_true rfl) (Nat.le_of_ble_eq_true rfl)
          obtain ⟨b864, g864⟩ : ∃ z, z = h0.size := ⟨_, rfl⟩
          have ge865 : n0 ≤ b864 := Nat.le_trans Z0 (Nat.le_of_eq g864.symm)
          have sz866 : h0.size ≤ b864 := Nat.le_trans KP0.1 (Nat.le_of_eq g864.symm)
          rw [← g864] at A864 st864
          have O867 := OL.ext E864
          have KP868 := KP0.ext E864
          have Zs869 := Nat.le_trans Z0 E864.1
          have V870 : Arv Z h864 b864 k864 .char (11 : Int32) [(.int (0 : Int32)), (.int (0 : Int32)), (.int (0 : Int32)), (.int (0 : Int32)), (.int (0 : Int32)), (.int (0 : Int32)), (.int (0 : Int32)), (.int (0 : Int32)), (.int (0 : Int32)), (.int (0 : Int32)), (.int (0 : Int32))] (.int (0 : Int32)) := (Arv.new A864 (by decide)).pad (pad_rep [] (.int (0 : Int32)) 11)
          refine own_back st864 ?_
          show OwnGo p e below (T864.setTop (mkF m 526 #[.val (.int x0), .val (.int x1), .val (.int x2)] [(.ref b864)])) _
          refine own_back (fun t k => XS.dup X864.here hx rfl (hb hby wd_d526) rfl rfl k) ?_
          show OwnGo p e below (T864.setTop (mkF m 527 #[.val (.int x0), .val (.int x1), .val (.int x2)] [(.ref b864), (.ref b864)])) _
          refine own_back (fun t k => XS.iconst X864.here hx rfl (hb hby wd_d527) k) ?_
          show OwnGo p e below (T864.setTop (mkF m 528 #[.val (.int x0), .val (.int x1), .val (.int x2)] [(.int (0 : Int32)), (.ref b864), (.ref b864)])) _
          refine own_back (fun t k => XS.bipush X864.here hx rfl (hb hby wd_d528) k) ?_
          show OwnGo p e below (T864.setTop (mkF m 530 #[.val (.int x0), .val (.int x1), .val (.int x2)] [(.int (114 : Int32)), (.int (0 : Int32)), (.ref b864), (.ref b864)])) _
          obtain ⟨c871, A871, q871, S871, M871, H871, U871⟩ := id V870
          obtain ⟨T872, h872, X872, e872, W872, st872⟩ := stC X864 hx hZ e864 A871 (j := (0 : Int32)) (inb_of S871 ⟨by decide, by decide⟩) (g := (mkF m 530 #[.val (.int x0), .val (.int x1), .val (.int x2)] [(.int (114 : Int32)), (.int (0 : Int32)), (.ref b864), (.ref b864)])) rfl rfl (hb hby wd_d530)
          have O873 := O867.wr W872 ge865
          have KP874 := KP868.wr W872 (Or.inr sz866)
          have Zs875 := Nat.le_trans Zs869 (Keep.of_wr W872).1
          have V876 : Arv Z h872 b864 k864 .char (11 : Int32) [(.int (nar .char (114 : Int32))), (.int (0 : Int32)), (.int (0 : Int32)), (.int (0 : Int32)), (.int (0 : Int32)), (.int (0 : Int32)), (.int (0 : Int32)), (.int (0 : Int32)), (.int (0 : Int32)), (.int (0 : Int32)), (.int (0 : Int32))] (.int (0 : Int32)) := Arv.set A871 q871 S871 M871 H871 U871 (fits_nar_char _) W872 0 rfl (Nat.le_of_ble_eq_true rfl)
          have N877 := Fr.snoc X872 N0 ge865
          refine own_back st872 ?_
          show OwnGo p e below (T872.setTop (mkF m 531 #[.val (.int x0), .val (.int x1), .val (.int x2)] [(.ref b864)])) _
          refine own_back (fun t k => XS.dup X872.here hx rfl (hb hby wd_d531) rfl rfl k) ?_
          show OwnGo p e below (T872.setTop (mkF m 532 #[.val (.int x0), .val (.int x1), .val (.int x2)] [(.ref b864), (.ref b864)])) _
          refine own_back (fun t k => XS.iconst X872.here hx rfl (hb hby wd_d532) k) ?_
          show OwnGo p e below (T872.setTop (mkF m 533 #[.val (.int x0), .val (.int x1), .val (.int x2)] [(.int (1 : Int32)), (.ref b864), (.ref b864)])) _
          refine own_back (fun t k => XS.bipush X872.here hx rfl (hb hby wd_d533) k) ?_
          show OwnGo p e below (T872.setTop (mkF m 535 #[.val (.int x0), .val (.int x1), .val (.int x2)] [(.int (105 : Int32)), (.int (1 : Int32)), (.ref b864), (.ref b864)])) _
          obtain ⟨c878, A878, q878, S878, M878, H878, U878⟩ := id V876
          obtain ⟨T879, h879, X879, e879, W879, st879⟩ := stC X872 hx hZ e872 A878 (j := (1 : Int32)) (inb_of S878 ⟨by decide, by decide⟩) (g := (mkF m 535 #[.val (.int x0), .val (.int x1), .val (.int x2)] [(.int (105 : Int32)), (.int (1 : Int32)), (.ref b864), (.ref b864)])) rfl rfl (hb hby wd_d535)
          have O880 := O873.wr W879 ge865
          have KP881 := KP874.wr W879 (Or.inr sz866)
          have Zs882 := Nat.le_trans Zs875 (Keep.of_wr W879).1
          have V883 : Arv Z h879 b864 k864 .char (11 : Int32) [(.int (nar .char (114 : Int32))), (.int (nar .char (105 : Int32))), (.int (0 : Int32)), (.int (0 : Int32)), (.int (0 : Int32)), (.int (0 : Int32)), (.int (0 : Int32)), (.int (0 : Int32)), (.int (0 : Int32)), (.int (0 : Int32)), (.int (0 : Int32))] (.int (0 : Int32)) := Arv.set A878 q878 S878 M878 H878 U878 (fits_nar_char _) W879 1 rfl (Nat.le_of_ble_eq_true rfl)
          have N884 := Fr.snoc X879 N877 ge865
          refine own_back st879 ?_
          show OwnGo p e below (T879.setTop (mkF m 536 #[.val (.int x0), .val (.int x1), .val (.int x2)] [(.ref b864)])) _
          refine own_back (fun t k => XS.dup X879.here hx rfl (hb hby wd_d536) rfl rfl k) ?_
          show OwnGo p e below (T879.setTop (mkF m 537 #[.val (.int x0), .val (.int x1), .val (.int x2)] [(.ref b864), (.ref b864)])) _
          refine own_back (fun t k => XS.iconst X879.here hx rfl (hb hby wd_d537) k) ?_
          show OwnGo p e below (T879.setTop (mkF m 538 #[.val (.int x0), .val (.int x1), .val (.int x2)] [(.int (2 : Int32)), (.ref b864), (.ref b864)])) _
          refine own_back (fun t k => XS.bipush X879.here hx rfl (hb hby wd_d538) k) ?_
          show OwnGo p e below (T879.setTop (mkF m 540 #[.val (.int x0), .val (.int x1), .val (.int x2)] [(.int (103 : Int32)), (.int (2 : Int32)), (.ref b864), (.ref b864)])) _
          obtain ⟨c885, A885, q885, S885, M885, H885, U885⟩ := id V883
          obtain ⟨T886, h886, X886, e886, W886, st886⟩ := stC X879 hx hZ e879 A885 (j := (2 : Int32)) (inb_of S885 ⟨by decide, by decide⟩) (g := (mkF m 540 #[.val (.int x0), .val (.int x1), .val (.int x2)] [(.int (103 : Int32)), (.int (2 : Int32)), (.ref b864), (.ref b864)])) rfl rfl (hb hby wd_d540)
          have O887 := O880.wr W886 ge865
          have KP888 := KP881.wr W886 (Or.inr sz866)
          have Zs889 := Nat.le_trans Zs882 (Keep.of_wr W886).1
          have V890 : Arv Z h886 b864 k864 .char (11 : Int32) [(.int (nar .char (114 : Int32))), (.int (nar .char (105 : Int32))), (.int (nar .char (103 : Int32))), (.int (0 : Int32)), (.int (0 : Int32)), (.int (0 : Int32)), (.int (0 : Int32)), (.int (0 : Int32)), (.int (0 : Int32)), (.int (0 : Int32)), (.int (0 : Int32))] (.int (0 : Int32)) := Arv.set A885 q885 S885 M885 H885 U885 (fits_nar_char _) W886 2 rfl (Nat.le_of_ble_eq_true rfl)
          have N891 := Fr.snoc X886 N884 ge865
          refine own_back st886 ?_
          show OwnGo p e below (T886.setTop (mkF m 541 #[.val (.int x0), .val (.int x1), .val (.int x2)] [(.ref b864)])) _
          refine own_back (fun t k => XS.dup X886.here hx rfl (hb hby wd_d541) rfl rfl k) ?_
          show OwnGo p e below (T886.setTop (mkF m 542 #[.val (.int x0), .val (.int x1), .val (.int x2)] [(.ref b864), (.ref b864)])) _
          refine own_back (fun t k => XS.iconst X886.here hx rfl (hb hby wd_d542) k) ?_
          show OwnGo p e below (T886.setTop (mkF m 543 #[.val (.int x0), .val (.int x1), .val (.int x2)] [(.int (3 : Int32)), (.ref b864), (.ref b864)])) _
          refine own_back (fun t k => XS.bipush X886.here hx rfl (hb hby wd_d543) k) ?_
          show OwnGo p e below (T886.setTop (mkF m 545 #[.val (.int x0), .val (.int x1), .val (.int x2)] [(.int (104 : Int32)), (.int (3 : Int32)), (.ref b864), (.ref b864)])) _
          obtain ⟨c892, A892, q892, S892, M892, H892, U892⟩ := id V890
          obtain ⟨T893, h893, X893, e893, W893, st893⟩ := stC X886 hx hZ e886 A892 (j := (3 : Int32)) (inb_of S892 ⟨by decide, by decide⟩) (g := (mkF m 545 #[.val (.int x0), .val (.int x1), .val (.int x2)] [(.int (104 : Int32)), (.int (3 : Int32)), (.ref b864), (.ref b864)])) rfl rfl (hb hby wd_d545)
          have O894 := O887.wr W893 ge865
          have KP895 := KP888.wr W893 (Or.inr sz866)
          have Zs896 := Nat.le_trans Zs889 (Keep.of_wr W893).1
          have V897 : Arv Z h893 b864 k864 .char (11 : Int32) [(.int (nar .char (114 : Int32))), (.int (nar .char (105 : Int32))), (.int (nar .char (103 : Int32))), (.int (nar .char (104 : Int32))), (.int (0 : Int32)), (.int (0 : Int32)), (.int (0 : Int32)), (.int (0 : Int32)), (.int (0 : Int32)), (.int (0 : Int32)), (.int (0 : Int32))] (.int (0 : Int32)) := Arv.set A892 q892 S892 M892 H892 U892 (fits_nar_char _) W893 3 rfl (Nat.le_of_ble_eq_true rfl)
          have N898 := Fr.snoc X893 N891 ge865
          refine own_back st893 ?_
          show OwnGo p e below (T893.setTop (mkF m 546 #[.val (.int x0), .val (.int x1), .val (.int x2)] [(.ref b864)])) _
          refine own_back (fun t k => XS.dup X893.here hx rfl (hb hby wd_d546) rfl rfl k) ?_
          show OwnGo p e below (T893.setTop (mkF m 547 #[.val (.int x0), .val (.int x1), .val (.int x2)] [(.ref b864), (.ref b864)])) _
          refine own_back (fun t k => XS.iconst X893.here hx rfl (hb hby wd_d547) k) ?_
          show OwnGo p e below (T893.setTop (mkF m 548 #[.val (.int x0), .val (.int x1), .val (.int x2)] [(.int (4 : Int32)), (.ref b864), (.ref b864)])) _
          refine own_back (fun t k => XS.bipush X893.here hx rfl (hb hby wd_d548) k) ?_
          show OwnGo p e below (T893.setTop (mkF m 550 #[.val (.int x0), .val (.int x1), .val (.int x2)] [(.int (116 : Int32)), (.int (4 : Int32)), (.ref b864), (.ref b864)])) _
          obtain ⟨c899, A899, q899, S899, M899, H899, U899⟩ := id V897
          obtain ⟨T900, h900, X900, e900, W900, st900⟩ := stC X893 hx hZ e893 A899 (j := (4 : Int32)) (inb_of S899 ⟨by decide, by decide⟩) (g := (mkF m 550 #[.val (.int x0), .val (.int x1), .val (.int x2)] [(.int (116 : Int32)), (.int (4 : Int32)), (.ref b864), (.ref b864)])) rfl rfl (hb hby wd_d550)
          have O901 := O894.wr W900 ge865
          have KP902 := KP895.wr W900 (Or.inr sz866)
          have Zs903 := Nat.le_trans Zs896 (Keep.of_wr W900).1
          have V904 : Arv Z h900 b864 k864 .char (11 : Int32) [(.int (nar .char (114 : Int32))), (.int (nar .char (105 : Int32))), (.int (nar .char (103 : Int32))), (.int (nar .char (104 : Int32))), (.int (nar .char (116 : Int32))), (.int (0 : Int32)), (.int (0 : Int32)), (.int (0 : Int32)), (.int (0 : Int32)), (.int (0 : Int32)), (.int (0 : Int32))] (.int (0 : Int32)) := Arv.set A899 q899 S899 M899 H899 U899 (fits_nar_char _) W900 4 rfl (Nat.le_of_ble_eq_true rfl)
          have N905 := Fr.snoc X900 N898 ge865
          refine own_back st900 ?_
          show OwnGo p e below (T900.setTop (mkF m 551 #[.val (.int x0), .val (.int x1), .val (.int x2)] [(.ref b864)])) _
          refine own_back (fun t k => XS.dup X900.here hx rfl (hb hby wd_d551) rfl rfl k) ?_
          show OwnGo p e below (T900.setTop (mkF m 552 #[.val (.int x0), .val (.int x1), .val (.int x2)] [(.ref b864), (.ref b864)])) _
          refine own_back (fun t k => XS.iconst X900.here hx rfl (hb hby wd_d552) k) ?_
          show OwnGo p e below (T900.setTop (mkF m 553 #[.val (.int x0), .val (.int x1), .val (.int x2)] [(.int (5 : Int32)), (.ref b864), (.ref b864)])) _
          refine own_back (fun t k => XS.bipush X900.here hx rfl (hb hby wd_d553) k) ?_
          show OwnGo p e below (T900.setTop (mkF m 555 #[.val (.int x0), .val (.int x1), .val (.int x2)] [(.int (115 : Int32)), (.int (5 : Int32)), (.ref b864), (.ref b864)])) _
          obtain ⟨c906, A906, q906, S906, M906, H906, U906⟩ := id V904
          obtain ⟨T907, h907, X907, e907, W907, st907⟩ := stC X900 hx hZ e900 A906 (j := (5 : Int32)) (inb_of S906 ⟨by decide, by decide⟩) (g := (mkF m 555 #[.val (.int x0), .val (.int x1), .val (.int x2)] [(.int (115 : Int32)), (.int (5 : Int32)), (.ref b864), (.ref b864)])) rfl rfl (hb hby wd_d555)
          have O908 := O901.wr W907 ge865
          have KP909 := KP902.wr W907 (Or.inr sz866)
          have Zs910 := Nat.le_trans Zs903 (Keep.of_wr W907).1
          have V911 : Arv Z h907 b864 k864 .char (11 : Int32) [(.int (nar .char (114 : Int32))), (.int (nar .char (105 : Int32))), (.int (nar .char (103 : Int32))), (.int (nar .char (104 : Int32))), (.int (nar .char (116 : Int32))), (.int (nar .char (115 : Int32))), (.int (0 : Int32)), (.int (0 : Int32)), (.int (0 : Int32)), (.int (0 : Int32)), (.int (0 : Int32))] (.int (0 : Int32)) := Arv.set A906 q906 S906 M906 H906 U906 (fits_nar_char _) W907 5 rfl (Nat.le_of_ble_eq_true rfl)
          have N912 := Fr.snoc X907 N905 ge865
          refine own_back st907 ?_
          show OwnGo p e below (T907.setTop (mkF m 556 #[.val (.int x0), .val (.int x1), .val (.int x2)] [(.ref b864)])) _
          refine own_back (fun t k => XS.dup X907.here hx rfl (hb hby wd_d556) rfl rfl k) ?_
          show OwnGo p e below (T907.setTop (mkF m 557 #[.val (.int x0), .val (.int x1), .val (.int x2)] [(.ref b864), (.ref b864)])) _
          refine own_back (fun t k => XS.bipush X907.here hx rfl (hb hby wd_d557) k) ?_
          show OwnGo p e below (T907.setTop (mkF m 559 #[.val (.int x0), .val (.int x1), .val (.int x2)] [(.int (6 : Int32)), (.ref b864), (.ref b864)])) _
          refine own_back (fun t k => XS.bipush X907.here hx rfl (hb hby wd_d559) k) ?_
          show OwnGo p e below (T907.setTop (mkF m 561 #[.val (.int x0), .val (.int x1), .val (.int x2)] [(.int (45 : Int32)), (.int (6 : Int32)), (.ref b864), (.ref b864)])) _
          obtain ⟨c913, A913, q913, S913, M913, H913, U913⟩ := id V911
          obtain ⟨T914, h914, X914, e914, W914, st914⟩ := stC X907 hx hZ e907 A913 (j := (6 : Int32)) (inb_of S913 ⟨by decide, by decide⟩) (g := (mkF m 561 #[.val (.int x0), .val (.int x1), .val (.int x2)] [(.int (45 : Int32)), (.int (6 : Int32)), (.ref b864), (.ref b864)])) rfl rfl (hb hby wd_d561)
          have O915 := O908.wr W914 ge865
          have KP916 := KP909.wr W914 (Or.inr sz866)
          have Zs917 := Nat.le_trans Zs910 (Keep.of_wr W914).1
          have V918 : Arv Z h914 b864 k864 .char (11 : Int32) [(.int (nar .char (114 : Int32))), (.int (nar .char (105 : Int32))), (.int (nar .char (103 : Int32))), (.int (nar .char (104 : Int32))), (.int (nar .char (116 : Int32))), (.int (nar .char (115 : Int32))), (.int (nar .char (45 : Int32))), (.int (0 : Int32)), (.int (0 : Int32)), (.int (0 : Int32)), (.int (0 : Int32))] (.int (0 : Int32)) := Arv.set A913 q913 S913 M913 H913 U913 (fits_nar_char _) W914 6 rfl (Nat.le_of_ble_eq_true rfl)
          have N919 := Fr.snoc X914 N912 ge865
          refine own_back st914 ?_
          show OwnGo p e below (T914.setTop (mkF m 562 #[.val (.int x0), .val (.int x1), .val (.int x2)] [(.ref b864)])) _
          refine own_back (fun t k => XS.dup X914.here hx rfl (hb hby wd_d562) rfl rfl k) ?_
          show OwnGo p e below (T914.setTop (mkF m 563 #[.val (.int x0), .val (.int x1), .val (.int x2)] [(.ref b864), (.ref b864)])) _
          refine own_back (fun t k => XS.bipush X914.here hx rfl (hb hby wd_d563) k) ?_
          show OwnGo p e below (T914.setTop (mkF m 565 #[.val (.int x0), .val (.int x1), .val (.int x2)] [(.int (7 : Int32)), (.ref b864), (.ref b864)])) _
          refine own_back (fun t k => XS.bipush X914.here hx rfl (hb hby wd_d565) k) ?_
          show OwnGo p e below (T914.setTop (mkF m 567 #[.val (.int x0), .val (.int x1), .val (.int x2)] [(.int (105 : Int32)), (.int (7 : Int32)), (.ref b864), (.ref b864)])) _
          obtain ⟨c920, A920, q920, S920, M920, H920, U920⟩ := id V918
          obtain ⟨T921, h921, X921, e921, W921, st921⟩ := stC X914 hx hZ e914 A920 (j := (7 : Int32)) (inb_of S920 ⟨by decide, by decide⟩) (g := (mkF m 567 #[.val (.int x0), .val (.int x1), .val (.int x2)] [(.int (105 : Int32)), (.int (7 : Int32)), (.ref b864), (.ref b864)])) rfl rfl (hb hby wd_d567)
          have O922 := O915.wr W921 ge865
          have KP923 := KP916.wr W921 (Or.inr sz866)
          have Zs924 := Nat.le_trans Zs917 (Keep.of_wr W921).1
          have V925 : Arv Z h921 b864 k864 .char (11 : Int32) [(.int (nar .char (114 : Int32))), (.int (nar .char (105 : Int32))), (.int (nar .char (103 : Int32))), (.int (nar .char (104 : Int32))), (.int (nar .char (116 : Int32))), (.int (nar .char (115 : Int32))), (.int (nar .char (45 : Int32))), (.int (nar .char (105 : Int32))), (.int (0 : Int32)), (.int (0 : Int32)), (.int (0 : Int32))] (.int (0 : Int32)) := Arv.set A920 q920 S920 M920 H920 U920 (fits_nar_char _) W921 7 rfl (Nat.le_of_ble_eq_true rfl)
          have N926 := Fr.snoc X921 N919 ge865
          refine own_back st921 ?_
          show OwnGo p e below (T921.setTop (mkF m 568 #[.val (.int x0), .val (.int x1), .val (.int x2)] [(.ref b864)])) _
          refine own_back (fun t k => XS.dup X921.here hx rfl (hb hby wd_d568) rfl rfl k) ?_
          show OwnGo p e below (T921.setTop (mkF m 569 #[.val (.int x0), .val (.int x1), .val (.int x2)] [(.ref b864), (.ref b864)])) _
          refine own_back (fun t k => XS.bipush X921.here hx rfl (hb hby wd_d569) k) ?_
          show OwnGo p e below (T921.setTop (mkF m 571 #[.val (.int x0), .val (.int x1), .val (.int x2)] [(.int (8 : Int32)), (.ref b864), (.ref b864)])) _
          refine own_back (fun t k => XS.bipush X921.here hx rfl (hb hby wd_d571) k) ?_
          show OwnGo p e below (T921.setTop (mkF m 573 #[.val (.int x0), .val (.int x1), .val (.int x2)] [(.int (115 : Int32)), (.int (8 : Int32)), (.ref b864), (.ref b864)])) _
          obtain ⟨c927, A927, q927, S927, M927, H927, U927⟩ := id V925
          obtain ⟨T928, h928, X928, e928, W928, st928⟩ := stC X921 hx hZ e921 A927 (j := (8 : Int32)) (inb_of S927 ⟨by decide, by decide⟩) (g := (mkF m 573 #[.val (.int x0), .val (.int x1), .val (.int x2)] [(.int (115 : Int32)), (.int (8 : Int32)), (.ref b864), (.ref b864)])) rfl rfl (hb hby wd_d573)
          have O929 := O922.wr W928 ge865
          have KP930 := KP923.wr W928 (Or.inr sz866)
          have Zs931 := Nat.le_trans Zs924 (Keep.of_wr W928).1
          have V932 : Arv Z h928 b864 k864 .char (11 : Int32) [(.int (nar .char (114 : Int32))), (.int (nar .char (105 : Int32))), (.int (nar .char (103 : Int32))), (.int (nar .char (104 : Int32))), (.int (nar .char (116 : Int32))), (.int (nar .char (115 : Int32))), (.int (nar .char (45 : Int32))), (.int (nar .char (105 : Int32))), (.int (nar .char (115 : Int32))), (.int (0 : Int32)), (.int (0 : Int32))] (.int (0 : Int32)) := Arv.set A927 q927 S927 M927 H927 U927 (fits_nar_char _) W928 8 rfl (Nat.le_of_ble_eq_true rfl)
          have N933 := Fr.snoc X928 N926 ge865
          refine own_back st928 ?_
          show OwnGo p e below (T928.setTop (mkF m 574 #[.val (.int x0), .val (.int x1), .val (.int x2)] [(.ref b864)])) _
          refine own_back (fun t k => XS.dup X928.here hx rfl (hb hby wd_d574) rfl rfl k) ?_
          show OwnGo p e below (T928.setTop (mkF m 575 #[.val (.int x0), .val (.int x1), .val (.int x2)] [(.ref b864), (.ref b864)])) _
          refine own_back (fun t k => XS.bipush X928.here hx rfl (hb hby wd_d575) k) ?_
          show OwnGo p e below (T928.setTop (mkF m 577 #[.val (.int x0), .val (.int x1), .val (.int x2)] [(.int (9 : Int32)), (.ref b864), (.ref b864)])) _
          refine own_back (fun t k => XS.bipush X928.here hx rfl (hb hby wd_d577) k) ?_
          show OwnGo p e below (T928.setTop (mkF m 579 #[.val (.int x0), .val (.int x1), .val (.int x2)] [(.int (115 : Int32)), (.int (9 : Int32)), (.ref b864), (.ref b864)])) _
          obtain ⟨c934, A934, q934, S934, M934, H934, U934⟩ := id V932
          obtain ⟨T935, h935, X935, e935, W935, st935⟩ := stC X928 hx hZ e928 A934 (j := (9 : Int32)) (inb_of S934 ⟨by decide, by decide⟩) (g := (mkF m 579 #[.val (.int x0), .val (.int x1), .val (.int x2)] [(.int (115 : Int32)), (.int (9 : Int32)), (.ref b864), (.ref b864)])) rfl rfl (hb hby wd_d579)
          have O936 := O929.wr W935 ge865
          have KP937 := KP930.wr W935 (Or.inr sz866)
          have Zs938 := Nat.le_trans Zs931 (Keep.of_wr W935).1
          have V939 : Arv Z h935 b864 k864 .char (11 : Int32) [(.int (nar .char (114 : Int32))), (.int (nar .char (105 : Int32))), (.int (nar .char (103 : Int32))), (.int (nar .char (104 : Int32))), (.int (nar .char (116 : Int32))), (.int (nar .char (115 : Int32))), (.int (nar .char (45 : Int32))), (.int (nar .char (105 : Int32))), (.int (nar .char (115 : Int32))), (.int (nar .char (115 : Int32))), (.int (0 : Int32))] (.int (0 : Int32)) := Arv.set A934 q934 S934 M934 H934 U934 (fits_nar_char _) W935 9 rfl (Nat.le_of_ble_eq_true rfl)
          have N940 := Fr.snoc X935 N933 ge865
          refine own_back st935 ?_
          show OwnGo p e below (T935.setTop (mkF m 580 #[.val (.int x0), .val (.int x1), .val (.int x2)] [(.ref b864)])) _
          refine own_back (fun t k => XS.dup X935.here hx rfl (hb hby wd_d580) rfl rfl k) ?_
          show OwnGo p e below (T935.setTop (mkF m 581 #[.val (.int x0), .val (.int x1), .val (.int x2)] [(.ref b864), (.ref b864)])) _
          refine own_back (fun t k => XS.bipush X935.here hx rfl (hb hby wd_d581) k) ?_
          show OwnGo p e below (T935.setTop (mkF m 583 #[.val (.int x0), .val (.int x1), .val (.int x2)] [(.int (10 : Int32)), (.ref b864), (.ref b864)])) _
          refine own_back (fun t k => XS.bipush X935.here hx rfl (hb hby wd_d583) k) ?_
          show OwnGo p e below (T935.setTop (mkF m 585 #[.val (.int x0), .val (.int x1), .val (.int x2)] [(.int (117 : Int32)), (.int (10 : Int32)), (.ref b864), (.ref b864)])) _
          obtain ⟨c941, A941, q941, S941, M941, H941, U941⟩ := id V939
          obtain ⟨T942, h942, X942, e942, W942, st942⟩ := stC X935 hx hZ e935 A941 (j := (10 : Int32)) (inb_of S941 ⟨by decide, by decide⟩) (g := (mkF m 585 #[.val (.int x0), .val (.int x1), .val (.int x2)] [(.int (117 : Int32)), (.int (10 : Int32)), (.ref b864), (.ref b864)])) rfl rfl (hb hby wd_d585)
          have O943 := O936.wr W942 ge865
          have KP944 := KP937.wr W942 (Or.inr sz866)
          have Zs945 := Nat.le_trans Zs938 (Keep.of_wr W942).1
          have V946 : Arv Z h942 b864 k864 .char (11 : Int32) [(.int (nar .char (114 : Int32))), (.int (nar .char (105 : Int32))), (.int (nar .char (103 : Int32))), (.int (nar .char (104 : Int32))), (.int (nar .char (116 : Int32))), (.int (nar .char (115 : Int32))), (.int (nar .char (45 : Int32))), (.int (nar .char (105 : Int32))), (.int (nar .char (115 : Int32))), (.int (nar .char (115 : Int32))), (.int (nar .char (117 : Int32)))] (.int (0 : Int32)) := Arv.set A941 q941 S941 M941 H941 U941 (fits_nar_char _) W942 10 rfl (Nat.le_of_ble_eq_true rfl)
          have N947 := Fr.snoc X942 N940 ge865
          refine own_back st942 ?_
          show OwnGo p e below (T942.setTop (mkF m 586 #[.val (.int x0), .val (.int x1), .val (.int x2)] [(.ref b864)])) _
          refine own_retA X942 hx Bd.notSynchronized Bd.returns rfl rfl (hb hby wd_d586) e942 (Nat.le_of_ble_eq_true rfl) (Nat.le_of_ble_eq_true rfl) ?_
          exact ⟨b864, _, [(nar .char (114 : Int32)), (nar .char (105 : Int32)), (nar .char (103 : Int32)), (nar .char (104 : Int32)), (nar .char (116 : Int32)), (nar .char (115 : Int32)), (nar .char (45 : Int32)), (nar .char (105 : Int32)), (nar .char (115 : Int32)), (nar .char (115 : Int32)), (nar .char (117 : Int32))], rfl, N947, own_ext KP944, V946, sz866, (own_allS (OwnCh.of (by decide)) (own_allS (OwnCh.of (by decide)) (own_allS (OwnCh.of (by decide)) (own_allS (OwnCh.of (by decide)) (own_allS (OwnCh.of (by decide)) (own_allS (OwnCh.of (by decide)) (own_allS (OwnCh.of (by decide)) (own_allS (OwnCh.of (by decide)) (own_allS (OwnCh.of (by decide)) (own_allS (OwnCh.of (by decide)) (own_allS (OwnCh.of (by decide)) own_all0))))))))))), Nat.le_of_ble_eq_true rfl, Nat.le_of_ble_eq_true rfl⟩
        · refine own_back (fun t k => XS.icmpYes X0.here hx rfl (pc0 := 519) (pc' := 587) rfl (hb hby wd_d519) rfl (Jvm.Free.XT.ii_ne_t hc519_863) (by decide) (by decide) k) ?_
          show OwnGo p e below (s₁.setTop (mkF m 587 #[.val (.int x0), .val (.int x1), .val (.int x2)] [])) _
          refine own_back (fun t k => XS.bipush X0.here hx rfl (hb hby wd_d587) k) ?_
          show OwnGo p e below (s₁.setTop (mkF m 589 #[.val (.int x0), .val (.int x1), .val (.int x2)] [(.int (12 : Int32))])) _
          obtain ⟨T948, h948, k948, X948, e948, E948, A948, st948⟩ := newP X0 hx hZ (hw _ (List.mem_of_getElem? (i := 5) rfl)) e0 (g := (mkF m 589 #[.val (.int x0), .val (.int x1), .val (.int x2)] [(.int (12 : Int32))])) rfl (hb hby wd_d589) rfl (by decide) (cap := 12) (by decide) (by decide) (Nat.le_of_ble_eq_true rfl) (Nat.le_of_ble_eq_true rfl)
          obtain ⟨b948, g948⟩ : ∃ z, z = h0.size := ⟨_, rfl⟩
          have ge949 : n0 ≤ b948 := Nat.le_trans Z0 (Nat.le_of_eq g948.symm)
          have sz950 : h0.size ≤ b948 := Nat.le_trans KP0.1 (Nat.le_of_eq g948.symm)
          rw [← g948] at A948 st948
          have O951 := OL.ext E948
          have KP952 := KP0.ext E948
          have Zs953 := Nat.le_trans Z0 E948.1
          have V954 : Arv Z h948 b948 k948 .char (12 : Int32) [(.int (0 : Int32)), (.int (0 : Int32)), (.int (0 : Int32)), (.int (0 : Int32)), (.int (0 : Int32)), (.int (0 : Int32)), (.int (0 : Int32)), (.int (0 : Int32)), (.int (0 : Int32)), (.int (0 : Int32)), (.int (0 : Int32)), (.int (0 : Int32))] (.int (0 : Int32)) := (Arv.new A948 (by decide)).pad (pad_rep [] (.int (0 : Int32)) 12)
          refine own_back st948 ?_
          show OwnGo p e below (T948.setTop (mkF m 591 #[.val (.int x0), .val (.int x1), .val (.int x2)] [(.ref b948)])) _
          refine own_back (fun t k => XS.dup X948.here hx rfl (hb hby wd_d591) rfl rfl k) ?_
          show OwnGo p e below (T948.setTop (mkF m 592 #[.val (.int x0), .val (.int x1), .val (.int x2)] [(.ref b948), (.ref b948)])) _
          refine own_back (fun t k => XS.iconst X948.here hx rfl (hb hby wd_d592) k) ?_
          show OwnGo p e below (T948.setTop (mkF m 593 #[.val (.int x0), .val (.int x1), .val (.int x2)] [(.int (0 : Int32)), (.ref b948), (.ref b948)])) _
          refine own_back (fun t k => XS.bipush X948.here hx rfl (hb hby wd_d593) k) ?_
          show OwnGo p e below (T948.setTop (mkF m 595 #[.val (.int x0), .val (.int x1), .val (.int x2)] [(.int (114 : Int32)), (.int (0 : Int32)), (.ref b948), (.ref b948)])) _
          obtain ⟨c955, A955, q955, S955, M955, H955, U955⟩ := id V954
          obtain ⟨T956, h956, X956, e956, W956, st956⟩ := stC X948 hx hZ e948 A955 (j := (0 : Int32)) (inb_of S955 ⟨by decide, by decide⟩) (g := (mkF m 595 #[.val (.int x0), .val (.int x1), .val (.int x2)] [(.int (114 : Int32)), (.int (0 : Int32)), (.ref b948), (.ref b948)])) rfl rfl (hb hby wd_d595)
          have O957 := O951.wr W956 ge949
          have KP958 := KP952.wr W956 (Or.inr sz950)
          have Zs959 := Nat.le_trans Zs953 (Keep.of_wr W956).1
          have V960 : Arv Z h956 b948 k948 .char (12 : Int32) [(.int (nar .char (114 : Int32))), (.int (0 : Int32)), (.int (0 : Int32)), (.int (0 : Int32)), (.int (0 : Int32)), (.int (0 : Int32)), (.int (0 : Int32)), (.int (0 : Int32)), (.int (0 : Int32)), (.int (0 : Int32)), (.int (0 : Int32)), (.int (0 : Int32))] (.int (0 : Int32)) := Arv.set A955 q955 S955 M955 H955 U955 (fits_nar_char _) W956 0 rfl (Nat.le_of_ble_eq_true rfl)
          have N961 := Fr.snoc X956 N0 ge949
          refine own_back st956 ?_
          show OwnGo p e below (T956.setTop (mkF m 596 #[.val (.int x0), .val (.int x1), .val (.int x2)] [(.ref b948)])) _
          refine own_back (fun t k => XS.dup X956.here hx rfl (hb hby wd_d596) rfl rfl k) ?_
          show OwnGo p e below (T956.setTop (mkF m 597 #[.val (.int x0), .val (.int x1), .val (.int x2)] [(.ref b948), (.ref b948)])) _
          refine own_back (fun t k => XS.iconst X956.here hx rfl (hb hby wd_d597) k) ?_
          show OwnGo p e below (T956.setTop (mkF m 598 #[.val (.int x0), .val (.int x1), .val (.int x2)] [(.int (1 : Int32)), (.ref b948), (.ref b948)])) _
          refine own_back (fun t k => XS.bipush X956.here hx rfl (hb hby wd_d598) k) ?_
          show OwnGo p e below (T956.setTop (mkF m 600 #[.val (.int x0), .val (.int x1), .val (.int x2)] [(.int (105 : Int32)), (.int (1 : Int32)), (.ref b948), (.ref b948)])) _
          obtain ⟨c962, A962, q962, S962, M962, H962, U962⟩ := id V960
          obtain ⟨T963, h963, X963, e963, W963, st963⟩ := stC X956 hx hZ e956 A962 (j := (1 : Int32)) (inb_of S962 ⟨by decide, by decide⟩) (g := (mkF m 600 #[.val (.int x0), .val (.int x1), .val (.int x2)] [(.int (105 : Int32)), (.int (1 : Int32)), (.ref b948), (.ref b948)])) rfl rfl (hb hby wd_d600)
          have O964 := O957.wr W963 ge949
          have KP965 := KP958.wr W963 (Or.inr sz950)
          have Zs966 := Nat.le_trans Zs959 (Keep.of_wr W963).1
          have V967 : Arv Z h963 b948 k948 .char (12 : Int32) [(.int (nar .char (114 : Int32))), (.int (nar .char (105 : Int32))), (.int (0 : Int32)), (.int (0 : Int32)), (.int (0 : Int32)), (.int (0 : Int32)), (.int (0 : Int32)), (.int (0 : Int32)), (.int (0 : Int32)), (.int (0 : Int32)), (.int (0 : Int32)), (.int (0 : Int32))] (.int (0 : Int32)) := Arv.set A962 q962 S962 M962 H962 U962 (fits_nar_char _) W963 1 rfl (Nat.le_of_ble_eq_true rfl)
          have N968 := Fr.snoc X963 N961 ge949
          refine own_back st963 ?_
          show OwnGo p e below (T963.setTop (mkF m 601 #[.val (.int x0), .val (.int x1), .val (.int x2)] [(.ref b948)])) _
          refine own_back (fun t k => XS.dup X963.here hx rfl (hb hby wd_d601) rfl rfl k) ?_
          show OwnGo p e below (T963.setTop (mkF m 602 #[.val (.int x0), .val (.int x1), .val (.int x2)] [(.ref b948), (.ref b948)])) _
          refine own_back (fun t k => XS.iconst X963.here hx rfl (hb hby wd_d602) k) ?_
          show OwnGo p e below (T963.setTop (mkF m 603 #[.val (.int x0), .val (.int x1), .val (.int x2)] [(.int (2 : Int32)), (.ref b948), (.ref b948)])) _
          refine own_back (fun t k => XS.bipush X963.here hx rfl (hb hby wd_d603) k) ?_
          show OwnGo p e below (T963.setTop (mkF m 605 #[.val (.int x0), .val (.int x1), .val (.int x2)] [(.int (103 : Int32)), (.int (2 : Int32)), (.ref b948), (.ref b948)])) _
          obtain ⟨c969, A969, q969, S969, M969, H969, U969⟩ := id V967
          obtain ⟨T970, h970, X970, e970, W970, st970⟩ := stC X963 hx hZ e963 A969 (j := (2 : Int32)) (inb_of S969 ⟨by decide, by decide⟩) (g := (mkF m 605 #[.val (.int x0), .val (.int x1), .val (.int x2)] [(.int (103 : Int32)), (.int (2 : Int32)), (.ref b948), (.ref b948)])) rfl rfl (hb hby wd_d605)
          have O971 := O964.wr W970 ge949
          have KP972 := KP965.wr W970 (Or.inr sz950)
          have Zs973 := Nat.le_trans Zs966 (Keep.of_wr W970).1
          have V974 : Arv Z h970 b948 k948 .char (12 : Int32) [(.int (nar .char (114 : Int32))), (.int (nar .char (105 : Int32))), (.int (nar .char (103 : Int32))), (.int (0 : Int32)), (.int (0 : Int32)), (.int (0 : Int32)), (.int (0 : Int32)), (.int (0 : Int32)), (.int (0 : Int32)), (.int (0 : Int32)), (.int (0 : Int32)), (.int (0 : Int32))] (.int (0 : Int32)) := Arv.set A969 q969 S969 M969 H969 U969 (fits_nar_char _) W970 2 rfl (Nat.le_of_ble_eq_true rfl)
          have N975 := Fr.snoc X970 N968 ge949
          refine own_back st970 ?_
          show OwnGo p e below (T970.setTop (mkF m 606 #[.val (.int x0), .val (.int x1), .val (.int x2)] [(.ref b948)])) _
          refine own_back (fun t k => XS.dup X970.here hx rfl (hb hby wd_d606) rfl rfl k) ?_
          show OwnGo p e below (T970.setTop (mkF m 607 #[.val (.int x0), .val (.int x1), .val (.int x2)] [(.ref b948), (.ref b948)])) _
          refine own_back (fun t k => XS.iconst X970.here hx rfl (hb hby wd_d607) k) ?_
          show OwnGo p e below (T970.setTop (mkF m 608 #[.val (.int x0), .val (.int x1), .val (.int x2)] [(.int (3 : Int32)), (.ref b948), (.ref b948)])) _
          refine own_back (fun t k => XS.bipush X970.here hx rfl (hb hby wd_d608) k) ?_
          show OwnGo p e below (T970.setTop (mkF m 610 #[.val (.int x0), .val (.int x1), .val (.int x2)] [(.int (104 : Int32)), (.int (3 : Int32)), (.ref b948), (.ref b948)])) _
          obtain ⟨c976, A976, q976, S976, M976, H976, U976⟩ := id V974
          obtain ⟨T977, h977, X977, e977, W977, st977⟩ := stC X970 hx hZ e970 A976 (j := (3 : Int32)) (inb_of S976 ⟨by decide, by decide⟩) (g := (mkF m 610 #[.val (.int x0), .val (.int x1), .val (.int x2)] [(.int (104 : Int32)), (.int (3 : Int32)), (.ref b948), (.ref b948)])) rfl rfl (hb hby wd_d610)
          have O978 := O971.wr W977 ge949
          have KP979 := KP972.wr W977 (Or.inr sz950)
          have Zs980 := Nat.le_trans Zs973 (Keep.of_wr W977).1
          have V981 : Arv Z h977 b948 k948 .char (12 : Int32) [(.int (nar .char (114 : Int32))), (.int (nar .char (105 : Int32))), (.int (nar .char (103 : Int32))), (.int (nar .char (104 : Int32))), (.int (0 : Int32)), (.int (0 : Int32)), (.int (0 : Int32)), (.int (0 : Int32)), (.int (0 : Int32)), (.int (0 : Int32)), (.int (0 : Int32)), (.int (0 : Int32))] (.int (0 : Int32)) := Arv.set A976 q976 S976 M976 H976 U976 (fits_nar_char _) W977 3 rfl (Nat.le_of_ble_eq_true rfl)
          have N982 := Fr.snoc X977 N975 ge949
          refine own_back st977 ?_
          show OwnGo p e below (T977.setTop (mkF m 611 #[.val (.int x0), .val (.int x1), .val (.int x2)] [(.ref b948)])) _
          refine own_back (fun t k => XS.dup X977.here hx rfl (hb hby wd_d611) rfl rfl k) ?_
          show OwnGo p e below (T977.setTop (mkF m 612 #[.val (.int x0), .val (.int x1), .val (.int x2)] [(.ref b948), (.ref b948)])) _
          refine own_back (fun t k => XS.iconst X977.here hx rfl (hb hby wd_d612) k) ?_
          show OwnGo p e below (T977.setTop (mkF m 613 #[.val (.int x0), .val (.int x1), .val (.int x2)] [(.int (4 : Int32)), (.ref b948), (.ref b948)])) _
          refine own_back (fun t k => XS.bipush X977.here hx rfl (hb hby wd_d613) k) ?_
          show OwnGo p e below (T977.setTop (mkF m 615 #[.val (.int x0), .val (.int x1), .val (.int x2)] [(.int (116 : Int32)), (.int (4 : Int32)), (.ref b948), (.ref b948)])) _
          obtain ⟨c983, A983, q983, S983, M983, H983, U983⟩ := id V981
          obtain ⟨T984, h984, X984, e984, W984, st984⟩ := stC X977 hx hZ e977 A983 (j := (4 : Int32)) (inb_of S983 ⟨by decide, by decide⟩) (g := (mkF m 615 #[.val (.int x0), .val (.int x1), .val (.int x2)] [(.int (116 : Int32)), (.int (4 : Int32)), (.ref b948), (.ref b948)])) rfl rfl (hb hby wd_d615)
          have O985 := O978.wr W984 ge949
          have KP986 := KP979.wr W984 (Or.inr sz950)
          have Zs987 := Nat.le_trans Zs980 (Keep.of_wr W984).1
          have V988 : Arv Z h984 b948 k948 .char (12 : Int32) [(.int (nar .char (114 : Int32))), (.int (nar .char (105 : Int32))), (.int (nar .char (103 : Int32))), (.int (nar .char (104 : Int32))), (.int (nar .char (116 : Int32))), (.int (0 : Int32)), (.int (0 : Int32)), (.int (0 : Int32)), (.int (0 : Int32)), (.int (0 : Int32)), (.int (0 : Int32)), (.int (0 : Int32))] (.int (0 : Int32)) := Arv.set A983 q983 S983 M983 H983 U983 (fits_nar_char _) W984 4 rfl (Nat.le_of_ble_eq_true rfl)
          have N989 := Fr.snoc X984 N982 ge949
          refine own_back st984 ?_
          show OwnGo p e below (T984.setTop (mkF m 616 #[.val (.int x0), .val (.int x1), .val (.int x2)] [(.ref b948)])) _
          refine own_back (fun t k => XS.dup X984.here hx rfl (hb hby wd_d616) rfl rfl k) ?_
          show OwnGo p e below (T984.setTop (mkF m 617 #[.val (.int x0), .val (.int x1), .val (.int x2)] [(.ref b948), (.ref b948)])) _
          refine own_back (fun t k => XS.iconst X984.here hx rfl (hb hby wd_d617) k) ?_
          show OwnGo p e below (T984.setTop (mkF m 618 #[.val (.int x0), .val (.int x1), .val (.int x2)] [(.int (5 : Int32)), (.ref b948), (.ref b948)])) _
          refine own_back (fun t k => XS.bipush X984.here hx rfl (hb hby wd_d618) k) ?_
          show OwnGo p e below (T984.setTop (mkF m 620 #[.val (.int x0), .val (.int x1), .val (.int x2)] [(.int (115 : Int32)), (.int (5 : Int32)), (.ref b948), (.ref b948)])) _
          obtain ⟨c990, A990, q990, S990, M990, H990, U990⟩ := id V988
          obtain ⟨T991, h991, X991, e991, W991, st991⟩ := stC X984 hx hZ e984 A990 (j := (5 : Int32)) (inb_of S990 ⟨by decide, by decide⟩) (g := (mkF m 620 #[.val (.int x0), .val (.int x1), .val (.int x2)] [(.int (115 : Int32)), (.int (5 : Int32)), (.ref b948), (.ref b948)])) rfl rfl (hb hby wd_d620)
          have O992 := O985.wr W991 ge949
          have KP993 := KP986.wr W991 (Or.inr sz950)
          have Zs994 := Nat.le_trans Zs987 (Keep.of_wr W991).1
          have V995 : Arv Z h991 b948 k948 .char (12 : Int32) [(.int (nar .char (114 : Int32))), (.int (nar .char (105 : Int32))), (.int (nar .char (103 : Int32))), (.int (nar .char (104 : Int32))), (.int (nar .char (116 : Int32))), (.int (nar .char (115 : Int32))), (.int (0 : Int32)), (.int (0 : Int32)), (.int (0 : Int32)), (.int (0 : Int32)), (.int (0 : Int32)), (.int (0 : Int32))] (.int (0 : Int32)) := Arv.set A990 q990 S990 M990 H990 U990 (fits_nar_char _) W991 5 rfl (Nat.le_of_ble_eq_true rfl)
          have N996 := Fr.snoc X991 N989 ge949
          refine own_back st991 ?_
          show OwnGo p e below (T991.setTop (mkF m 621 #[.val (.int x0), .val (.int x1), .val (.int x2)] [(.ref b948)])) _
          refine own_back (fun t k => XS.dup X991.here hx rfl (hb hby wd_d621) rfl rfl k) ?_
          show OwnGo p e below (T991.setTop (mkF m 622 #[.val (.int x0), .val (.int x1), .val (.int x2)] [(.ref b948), (.ref b948)])) _
          refine own_back (fun t k => XS.bipush X991.here hx rfl (hb hby wd_d622) k) ?_
          show OwnGo p e below (T991.setTop (mkF m 624 #[.val (.int x0), .val (.int x1), .val (.int x2)] [(.int (6 : Int32)), (.ref b948), (.ref b948)])) _
          refine own_back (fun t k => XS.bipush X991.here hx rfl (hb hby wd_d624) k) ?_
          show OwnGo p e below (T991.setTop (mkF m 626 #[.val (.int x0), .val (.int x1), .val (.int x2)] [(.int (45 : Int32)), (.int (6 : Int32)), (.ref b948), (.ref b948)])) _
          obtain ⟨c997, A997, q997, S997, M997, H997, U997⟩ := id V995
          obtain ⟨T998, h998, X998, e998, W998, st998⟩ := stC X991 hx hZ e991 A997 (j := (6 : Int32)) (inb_of S997 ⟨by decide, by decide⟩) (g := (mkF m 626 #[.val (.int x0), .val (.int x1), .val (.int x2)] [(.int (45 : Int32)), (.int (6 : Int32)), (.ref b948), (.ref b948)])) rfl rfl (hb hby wd_d626)
          have O999 := O992.wr W998 ge949
          have KP1000 := KP993.wr W998 (Or.inr sz950)
          have Zs1001 := Nat.le_trans Zs994 (Keep.of_wr W998).1
          have V1002 : Arv Z h998 b948 k948 .char (12 : Int32) [(.int (nar .char (114 : Int32))), (.int (nar .char (105 : Int32))), (.int (nar .char (103 : Int32))), (.int (nar .char (104 : Int32))), (.int (nar .char (116 : Int32))), (.int (nar .char (115 : Int32))), (.int (nar .char (45 : Int32))), (.int (0 : Int32)), (.int (0 : Int32)), (.int (0 : Int32)), (.int (0 : Int32)), (.int (0 : Int32))] (.int (0 : Int32)) := Arv.set A997 q997 S997 M997 H997 U997 (fits_nar_char _) W998 6 rfl (Nat.le_of_ble_eq_true rfl)
          have N1003 := Fr.snoc X998 N996 ge949
          refine own_back st998 ?_
          show OwnGo p e below (T998.setTop (mkF m 627 #[.val (.int x0), .val (.int x1), .val (.int x2)] [(.ref b948)])) _
          refine own_back (fun t k => XS.dup X998.here hx rfl (hb hby wd_d627) rfl rfl k) ?_
          show OwnGo p e below (T998.setTop (mkF m 628 #[.val (.int x0), .val (.int x1), .val (.int x2)] [(.ref b948), (.ref b948)])) _
          refine own_back (fun t k => XS.bipush X998.here hx rfl (hb hby wd_d628) k) ?_
          show OwnGo p e below (T998.setTop (mkF m 630 #[.val (.int x0), .val (.int x1), .val (.int x2)] [(.int (7 : Int32)), (.ref b948), (.ref b948)])) _
          refine own_back (fun t k => XS.bipush X998.here hx rfl (hb hby wd_d630) k) ?_
          show OwnGo p e below (T998.setTop (mkF m 632 #[.val (.int x0), .val (.int x1), .val (.int x2)] [(.int (105 : Int32)), (.int (7 : Int32)), (.ref b948), (.ref b948)])) _
          obtain ⟨c1004, A1004, q1004, S1004, M1004, H1004, U1004⟩ := id V1002
          obtain ⟨T1005, h1005, X1005, e1005, W1005, st1005⟩ := stC X998 hx hZ e998 A1004 (j := (7 : Int32)) (inb_of S1004 ⟨by decide, by decide⟩) (g := (mkF m 632 #[.val (.int x0), .val (.int x1), .val (.int x2)] [(.int (105 : Int32)), (.int (7 : Int32)), (.ref b948), (.ref b948)])) rfl rfl (hb hby wd_d632)
          have O1006 := O999.wr W1005 ge949
          have KP1007 := KP1000.wr W1005 (Or.inr sz950)
          have Zs1008 := Nat.le_trans Zs1001 (Keep.of_wr W1005).1
          have V1009 : Arv Z h1005 b948 k948 .char (12 : Int32) [(.int (nar .char (114 : Int32))), (.int (nar .char (105 : Int32))), (.int (nar .char (103 : Int32))), (.int (nar .char (104 : Int32))), (.int (nar .char (116 : Int32))), (.int (nar .char (115 : Int32))), (.int (nar .char (45 : Int32))), (.int (nar .char (105 : Int32))), (.int (0 : Int32)), (.int (0 : Int32)), (.int (0 : Int32)), (.int (0 : Int32))] (.int (0 : Int32)) := Arv.set A1004 q1004 S1004 M1004 H1004 U1004 (fits_nar_char _) W1005 7 rfl (Nat.le_of_ble_eq_true rfl)
          have N1010 := Fr.snoc X1005 N1003 ge949
          refine own_back st1005 ?_
          show OwnGo p e below (T1005.setTop (mkF m 633 #[.val (.int x0), .val (.int x1), .val (.int x2)] [(.ref b948)])) _
          refine own_back (fun t k => XS.dup X1005.here hx rfl (hb hby wd_d633) rfl rfl k) ?_
          show OwnGo p e below (T1005.setTop (mkF m 634 #[.val (.int x0), .val (.int x1), .val (.int x2)] [(.ref b948), (.ref b948)])) _
          refine own_back (fun t k => XS.bipush X1005.here hx rfl (hb hby wd_d634) k) ?_
          show OwnGo p e below (T1005.setTop (mkF m 636 #[.val (.int x0), .val (.int x1), .val (.int x2)] [(.int (8 : Int32)), (.ref b948), (.ref b948)])) _
          refine own_back (fun t k => XS.bipush X1005.here hx rfl (hb hby wd_d636) k) ?_
          show OwnGo p e below (T1005.setTop (mkF m 638 #[.val (.int x0), .val (.int x1), .val (.int x2)] [(.int (115 : Int32)), (.int (8 : Int32)), (.ref b948), (.ref b948)])) _
          obtain ⟨c1011, A1011, q1011, S1011, M1011, H1011, U1011⟩ := id V1009
          obtain ⟨T1012, h1012, X1012, e1012, W1012, st1012⟩ := stC X1005 hx hZ e1005 A1011 (j := (8 : Int32)) (inb_of S1011 ⟨by decide, by decide⟩) (g := (mkF m 638 #[.val (.int x0), .val (.int x1), .val (.int x2)] [(.int (115 : Int32)), (.int (8 : Int32)), (.ref b948), (.ref b948)])) rfl rfl (hb hby wd_d638)
          have O1013 := O1006.wr W1012 ge949
          have KP1014 := KP1007.wr W1012 (Or.inr sz950)
          have Zs1015 := Nat.le_trans Zs1008 (Keep.of_wr W1012).1
          have V1016 : Arv Z h1012 b948 k948 .char (12 : Int32) [(.int (nar .char (114 : Int32))), (.int (nar .char (105 : Int32))), (.int (nar .char (103 : Int32))), (.int (nar .char (104 : Int32))), (.int (nar .char (116 : Int32))), (.int (nar .char (115 : Int32))), (.int (nar .char (45 : Int32))), (.int (nar .char (105 : Int32))), (.int (nar .char (115 : Int32))), (.int (0 : Int32)), (.int (0 : Int32)), (.int (0 : Int32))] (.int (0 : Int32)) := Arv.set A1011 q1011 S1011 M1011 H1011 U1011 (fits_nar_char _) W1012 8 rfl (Nat.le_of_ble_eq_true rfl)
          have N1017 := Fr.snoc X1012 N1010 ge949
          refine own_back st1012 ?_
          show OwnGo p e below (T1012.setTop (mkF m 639 #[.val (.int x0), .val (.int x1), .val (.int x2)] [(.ref b948)])) _
          refine own_back (fun t k => XS.dup X1012.here hx rfl (hb hby wd_d639) rfl rfl k) ?_
          show OwnGo p e below (T1012.setTop (mkF m 640 #[.val (.int x0), .val (.int x1), .val (.int x2)] [(.ref b948), (.ref b948)])) _
          refine own_back (fun t k => XS.bipush X1012.here hx rfl (hb hby wd_d640) k) ?_
          show OwnGo p e below (T1012.setTop (mkF m 642 #[.val (.int x0), .val (.int x1), .val (.int x2)] [(.int (9 : Int32)), (.ref b948), (.ref b948)])) _
          refine own_back (fun t k => XS.bipush X1012.here hx rfl (hb hby wd_d642) k) ?_
          show OwnGo p e below (T1012.setTop (mkF m 644 #[.val (.int x0), .val (.int x1), .val (.int x2)] [(.int (115 : Int32)), (.int (9 : Int32)), (.ref b948), (.ref b948)])) _
          obtain ⟨c1018, A1018, q1018, S1018, M1018, H1018, U1018⟩ := id V1016
          obtain ⟨T1019, h1019, X1019, e1019, W1019, st1019⟩ := stC X1012 hx hZ e1012 A1018 (j := (9 : Int32)) (inb_of S1018 ⟨by decide, by decide⟩) (g := (mkF m 644 #[.val (.int x0), .val (.int x1), .val (.int x2)] [(.int (115 : Int32)), (.int (9 : Int32)), (.ref b948), (.ref b948)])) rfl rfl (hb hby wd_d644)
          have O1020 := O1013.wr W1019 ge949
          have KP1021 := KP1014.wr W1019 (Or.inr sz950)
          have Zs1022 := Nat.le_trans Zs1015 (Keep.of_wr W1019).1
          have V1023 : Arv Z h1019 b948 k948 .char (12 : Int32) [(.int (nar .char (114 : Int32))), (.int (nar .char (105 : Int32))), (.int (nar .char (103 : Int32))), (.int (nar .char (104 : Int32))), (.int (nar .char (116 : Int32))), (.int (nar .char (115 : Int32))), (.int (nar .char (45 : Int32))), (.int (nar .char (105 : Int32))), (.int (nar .char (115 : Int32))), (.int (nar .char (115 : Int32))), (.int (0 : Int32)), (.int (0 : Int32))] (.int (0 : Int32)) := Arv.set A1018 q1018 S1018 M1018 H1018 U1018 (fits_nar_char _) W1019 9 rfl (Nat.le_of_ble_eq_true rfl)
          have N1024 := Fr.snoc X1019 N1017 ge949
          refine own_back st1019 ?_
          show OwnGo p e below (T1019.setTop (mkF m 645 #[.val (.int x0), .val (.int x1), .val (.int x2)] [(.ref b948)])) _
          refine own_back (fun t k => XS.dup X1019.here hx rfl (hb hby wd_d645) rfl rfl k) ?_
          show OwnGo p e below (T1019.setTop (mkF m 646 #[.val (.int x0), .val (.int x1), .val (.int x2)] [(.ref b948), (.ref b948)])) _
          refine own_back (fun t k => XS.bipush X1019.here hx rfl (hb hby wd_d646) k) ?_
          show OwnGo p e below (T1019.setTop (mkF m 648 #[.val (.int x0), .val (.int x1), .val (.int x2)] [(.int (10 : Int32)), (.ref b948), (.ref b948)])) _
          refine own_back (fun t k => XS.bipush X1019.here hx rfl (hb hby wd_d648) k) ?_
          show OwnGo p e below (T1019.setTop (mkF m 650 #[.val (.int x0), .val (.int x1), .val (.int x2)] [(.int (117 : Int32)), (.int (10 : Int32)), (.ref b948), (.ref b948)])) _
          obtain ⟨c1025, A1025, q1025, S1025, M1025, H1025, U1025⟩ := id V1023
          obtain ⟨T1026, h1026, X1026, e1026, W1026, st1026⟩ := stC X1019 hx hZ e1019 A1025 (j := (10 : Int32)) (inb_of S1025 ⟨by decide, by decide⟩) (g := (mkF m 650 #[.val (.int x0), .val (.int x1), .val (.int x2)] [(.int (117 : Int32)), (.int (10 : Int32)), (.ref b948), (.ref b948)])) rfl rfl (hb hby wd_d650)
          have O1027 := O1020.wr W1026 ge949
          have KP1028 := KP1021.wr W1026 (Or.inr sz950)
          have Zs1029 := Nat.le_trans Zs1022 (Keep.of_wr W1026).1
          have V1030 : Arv Z h1026 b948 k948 .char (12 : Int32) [(.int (nar .char (114 : Int32))), (.int (nar .char (105 : Int32))), (.int (nar .char (103 : Int32))), (.int (nar .char (104 : Int32))), (.int (nar .char (116 : Int32))), (.int (nar .char (115 : Int32))), (.int (nar .char (45 : Int32))), (.int (nar .char (105 : Int32))), (.int (nar .char (115 : Int32))), (.int (nar .char (115 : Int32))), (.int (nar .char (117 : Int32))), (.int (0 : Int32))] (.int (0 : Int32)) := Arv.set A1025 q1025 S1025 M1025 H1025 U1025 (fits_nar_char _) W1026 10 rfl (Nat.le_of_ble_eq_true rfl)
          have N1031 := Fr.snoc X1026 N1024 ge949
          refine own_back st1026 ?_
          show OwnGo p e below (T1026.setTop (mkF m 651 #[.val (.int x0), .val (.int x1), .val (.int x2)] [(.ref b948)])) _
          refine own_back (fun t k => XS.dup X1026.here hx rfl (hb hby wd_d651) rfl rfl k) ?_
          show OwnGo p e below (T1026.setTop (mkF m 652 #[.val (.int x0), .val (.int x1), .val (.int x2)] [(.ref b948), (.ref b948)])) _
          refine own_back (fun t k => XS.bipush X1026.here hx rfl (hb hby wd_d652) k) ?_
          show OwnGo p e below (T1026.setTop (mkF m 654 #[.val (.int x0), .val (.int x1), .val (.int x2)] [(.int (11 : Int32)), (.ref b948), (.ref b948)])) _
          refine own_back (fun t k => XS.bipush X1026.here hx rfl (hb hby wd_d654) k) ?_
          show OwnGo p e below (T1026.setTop (mkF m 656 #[.val (.int x0), .val (.int x1), .val (.int x2)] [(.int (101 : Int32)), (.int (11 : Int32)), (.ref b948), (.ref b948)])) _
          obtain ⟨c1032, A1032, q1032, S1032, M1032, H1032, U1032⟩ := id V1030
          obtain ⟨T1033, h1033, X1033, e1033, W1033, st1033⟩ := stC X1026 hx hZ e1026 A1032 (j := (11 : Int32)) (inb_of S1032 ⟨by decide, by decide⟩) (g := (mkF m 656 #[.val (.int x0), .val (.int x1), .val (.int x2)] [(.int (101 : Int32)), (.int (11 : Int32)), (.ref b948), (.ref b948)])) rfl rfl (hb hby wd_d656)
          have O1034 := O1027.wr W1033 ge949
          have KP1035 := KP1028.wr W1033 (Or.inr sz950)
          have Zs1036 := Nat.le_trans Zs1029 (Keep.of_wr W1033).1
          have V1037 : Arv Z h1033 b948 k948 .char (12 : Int32) [(.int (nar .char (114 : Int32))), (.int (nar .char (105 : Int32))), (.int (nar .char (103 : Int32))), (.int (nar .char (104 : Int32))), (.int (nar .char (116 : Int32))), (.int (nar .char (115 : Int32))), (.int (nar .char (45 : Int32))), (.int (nar .char (105 : Int32))), (.int (nar .char (115 : Int32))), (.int (nar .char (115 : Int32))), (.int (nar .char (117 : Int32))), (.int (nar .char (101 : Int32)))] (.int (0 : Int32)) := Arv.set A1032 q1032 S1032 M1032 H1032 U1032 (fits_nar_char _) W1033 11 rfl (Nat.le_of_ble_eq_true rfl)
          have N1038 := Fr.snoc X1033 N1031 ge949
          refine own_back st1033 ?_
          show OwnGo p e below (T1033.setTop (mkF m 657 #[.val (.int x0), .val (.int x1), .val (.int x2)] [(.ref b948)])) _
          refine own_retA X1033 hx Bd.notSynchronized Bd.returns rfl rfl (hb hby wd_d657) e1033 (Nat.le_of_ble_eq_true rfl) (Nat.le_of_ble_eq_true rfl) ?_
          exact ⟨b948, _, [(nar .char (114 : Int32)), (nar .char (105 : Int32)), (nar .char (103 : Int32)), (nar .char (104 : Int32)), (nar .char (116 : Int32)), (nar .char (115 : Int32)), (nar .char (45 : Int32)), (nar .char (105 : Int32)), (nar .char (115 : Int32)), (nar .char (115 : Int32)), (nar .char (117 : Int32)), (nar .char (101 : Int32))], rfl, N1038, own_ext KP1035, V1037, sz950, (own_allS (OwnCh.of (by decide)) (own_allS (OwnCh.of (by decide)) (own_allS (OwnCh.of (by decide)) (own_allS (OwnCh.of (by decide)) (own_allS (OwnCh.of (by decide)) (own_allS (OwnCh.of (by decide)) (own_allS (OwnCh.of (by decide)) (own_allS (OwnCh.of (by decide)) (own_allS (OwnCh.of (by decide)) (own_allS (OwnCh.of (by decide)) (own_allS (OwnCh.of (by decide)) (own_allS (OwnCh.of (by decide)) own_all0)))))))))))), Nat.le_of_ble_eq_true rfl, Nat.le_of_ble_eq_true rfl⟩
theorem dr_d0 : decode method_3_code 0 = .ok (.iload_n 0, 1) := by decide +kernel
theorem dr_d1 : decode method_3_code 1 = .ok (.ldc 7, 2) := by decide +kernel
theorem dr_d3 : decode method_3_code 3 = .ok (.iand, 1) := by decide +kernel
theorem dr_d4 : decode method_3_code 4 = .ok (.iconst 5, 1) := by decide +kernel
theorem dr_d5 : decode method_3_code 5 = .ok (.irem, 1) := by decide +kernel
theorem dr_d6 : decode method_3_code 6 = .ok (.istore 4, 2) := by decide +kernel
theorem dr_d8 : decode method_3_code 8 = .ok (.iload 4, 2) := by decide +kernel
theorem dr_d10 : decode method_3_code 10 = .ok (.iconst 4, 1) := by decide +kernel
theorem dr_d11 : decode method_3_code 11 = .ok (.if_icmp .ne 5, 3) := by decide +kernel
theorem dr_d14 : decode method_3_code 14 = .ok (.aconst_null, 1) := by decide +kernel
theorem dr_d15 : decode method_3_code 15 = .ok (.areturn, 1) := by decide +kernel
theorem dr_d16 : decode method_3_code 16 = .ok (.iload_n 1, 1) := by decide +kernel
theorem dr_d17 : decode method_3_code 17 = .ok (.sipush 255, 3) := by decide +kernel
theorem dr_d20 : decode method_3_code 20 = .ok (.iand, 1) := by decide +kernel
theorem dr_d21 : decode method_3_code 21 = .ok (.i2c, 1) := by decide +kernel
theorem dr_d22 : decode method_3_code 22 = .ok (.istore 5, 2) := by decide +kernel
theorem dr_d24 : decode method_3_code 24 = .ok (.iload_n 2, 1) := by decide +kernel
theorem dr_d25 : decode method_3_code 25 = .ok (.sipush 255, 3) := by decide +kernel
theorem dr_d28 : decode method_3_code 28 = .ok (.iand, 1) := by decide +kernel
theorem dr_d29 : decode method_3_code 29 = .ok (.i2c, 1) := by decide +kernel
theorem dr_d30 : decode method_3_code 30 = .ok (.istore 6, 2) := by decide +kernel
theorem dr_d32 : decode method_3_code 32 = .ok (.iload_n 3, 1) := by decide +kernel
theorem dr_d33 : decode method_3_code 33 = .ok (.sipush 255, 3) := by decide +kernel
theorem dr_d36 : decode method_3_code 36 = .ok (.iand, 1) := by decide +kernel
theorem dr_d37 : decode method_3_code 37 = .ok (.i2c, 1) := by decide +kernel
theorem dr_d38 : decode method_3_code 38 = .ok (.istore 7, 2) := by decide +kernel
theorem dr_d40 : decode method_3_code 40 = .ok (.iload 4, 2) := by decide +kernel
theorem dr_d42 : decode method_3_code 42 = .ok (.ifCond .ne 14, 3) := by decide +kernel
theorem dr_d45 : decode method_3_code 45 = .ok (.new 8, 3) := by decide +kernel
theorem dr_d48 : decode method_3_code 48 = .ok (.dup, 1) := by decide +kernel
theorem dr_d49 : decode method_3_code 49 = .ok (.iconst 0, 1) := by decide +kernel
theorem dr_d50 : decode method_3_code 50 = .ok (.newarray .char, 2) := by decide +kernel
theorem dr_d52 : decode method_3_code 52 = .ok (.invokespecial 10, 3) := by decide +kernel
theorem dr_d55 : decode method_3_code 55 = .ok (.areturn, 1) := by decide +kernel
theorem dr_d56 : decode method_3_code 56 = .ok (.iload 4, 2) := by decide +kernel
theorem dr_d58 : decode method_3_code 58 = .ok (.iconst 1, 1) := by decide +kernel
theorem dr_d59 : decode method_3_code 59 = .ok (.if_icmp .ne 19, 3) := by decide +kernel
theorem dr_d62 : decode method_3_code 62 = .ok (.new 8, 3) := by decide +kernel
theorem dr_d65 : decode method_3_code 65 = .ok (.dup, 1) := by decide +kernel
theorem dr_d66 : decode method_3_code 66 = .ok (.iconst 1, 1) := by decide +kernel
theorem dr_d67 : decode method_3_code 67 = .ok (.newarray .char, 2) := by decide +kernel
theorem dr_d69 : decode method_3_code 69 = .ok (.dup, 1) := by decide +kernel
theorem dr_d70 : decode method_3_code 70 = .ok (.iconst 0, 1) := by decide +kernel
theorem dr_d71 : decode method_3_code 71 = .ok (.iload 5, 2) := by decide +kernel
theorem dr_d73 : decode method_3_code 73 = .ok (.castore, 1) := by decide +kernel
theorem dr_d74 : decode method_3_code 74 = .ok (.invokespecial 10, 3) := by decide +kernel
theorem dr_d77 : decode method_3_code 77 = .ok (.areturn, 1) := by decide +kernel
theorem dr_d78 : decode method_3_code 78 = .ok (.iload 4, 2) := by decide +kernel
theorem dr_d80 : decode method_3_code 80 = .ok (.iconst 2, 1) := by decide +kernel
theorem dr_d81 : decode method_3_code 81 = .ok (.if_icmp .ne 24, 3) := by decide +kernel
theorem dr_d84 : decode method_3_code 84 = .ok (.new 8, 3) := by decide +kernel
theorem dr_d87 : decode method_3_code 87 = .ok (.dup, 1) := by decide +kernel
theorem dr_d88 : decode method_3_code 88 = .ok (.iconst 2, 1) := by decide +kernel
theorem dr_d89 : decode method_3_code 89 = .ok (.newarray .char, 2) := by decide +kernel
theorem dr_d91 : decode method_3_code 91 = .ok (.dup, 1) := by decide +kernel
theorem dr_d92 : decode method_3_code 92 = .ok (.iconst 0, 1) := by decide +kernel
theorem dr_d93 : decode method_3_code 93 = .ok (.iload 5, 2) := by decide +kernel
theorem dr_d95 : decode method_3_code 95 = .ok (.castore, 1) := by decide +kernel
theorem dr_d96 : decode method_3_code 96 = .ok (.dup, 1) := by decide +kernel
theorem dr_d97 : decode method_3_code 97 = .ok (.iconst 1, 1) := by decide +kernel
theorem dr_d98 : decode method_3_code 98 = .ok (.iload 6, 2) := by decide +kernel
theorem dr_d100 : decode method_3_code 100 = .ok (.castore, 1) := by decide +kernel
theorem dr_d101 : decode method_3_code 101 = .ok (.invokespecial 10, 3) := by decide +kernel
theorem dr_d104 : decode method_3_code 104 = .ok (.areturn, 1) := by decide +kernel
theorem dr_d105 : decode method_3_code 105 = .ok (.new 8, 3) := by decide +kernel
theorem dr_d108 : decode method_3_code 108 = .ok (.dup, 1) := by decide +kernel
theorem dr_d109 : decode method_3_code 109 = .ok (.iconst 3, 1) := by decide +kernel
theorem dr_d110 : decode method_3_code 110 = .ok (.newarray .char, 2) := by decide +kernel
theorem dr_d112 : decode method_3_code 112 = .ok (.dup, 1) := by decide +kernel
theorem dr_d113 : decode method_3_code 113 = .ok (.iconst 0, 1) := by decide +kernel
theorem dr_d114 : decode method_3_code 114 = .ok (.iload 5, 2) := by decide +kernel
theorem dr_d116 : decode method_3_code 116 = .ok (.castore, 1) := by decide +kernel
theorem dr_d117 : decode method_3_code 117 = .ok (.dup, 1) := by decide +kernel
theorem dr_d118 : decode method_3_code 118 = .ok (.iconst 1, 1) := by decide +kernel
theorem dr_d119 : decode method_3_code 119 = .ok (.iload 6, 2) := by decide +kernel
theorem dr_d121 : decode method_3_code 121 = .ok (.castore, 1) := by decide +kernel
theorem dr_d122 : decode method_3_code 122 = .ok (.dup, 1) := by decide +kernel
theorem dr_d123 : decode method_3_code 123 = .ok (.iconst 2, 1) := by decide +kernel
theorem dr_d124 : decode method_3_code 124 = .ok (.iload 7, 2) := by decide +kernel
theorem dr_d126 : decode method_3_code 126 = .ok (.castore, 1) := by decide +kernel
theorem dr_d127 : decode method_3_code 127 = .ok (.invokespecial 10, 3) := by decide +kernel
theorem dr_d130 : decode method_3_code 130 = .ok (.areturn, 1) := by decide +kernel
theorem dr_pn : plainName "com/example/indexwright/indexwright/marketdata/KindOfPinLaw" = true := by first | (simp [plainName, overriddenIn]; done) | decide +kernel
theorem dr_pd0 : parseMethodDescriptor "([C)V" = some ⟨[(.array .char)], none⟩ := by decide +kernel
theorem dr_ef (m : MethodId) (x0 : Int32) (x1 : Int32) (x2 : Int32) (x3 : Int32) : entryFrame m #[(.int x0), (.int x1), (.int x2), (.int x3)] 8 = mkF m 0 #[.val (.int x0), .val (.int x1), .val (.int x2), .val (.int x3), .unset, .unset, .unset, .unset] [] := by first | (simp [entryFrame, mkF, argsToLocals, Value.category]; done) | rfl
set_option maxRecDepth 65536 in
set_option maxHeartbeats 40000000 in
theorem rm_dr (l : Launch) (Z : State) (a0 : Array Value) (hw : ∀ d ∈ tables_1, d.before a0 Z = true) (ws : List Jvm.Cond) (x0 : Int32) (x1 : Int32) (x2 : Int32) (x3 : Int32) (cz : Int32) (h0 : Heap) (n0 : Nat) (Z0 : n0 ≤ h0.size) (OL : Old Z n0 h0) (SC : Sta Z Z.heap "java/lang/String" "COMPACT_STRINGS" "Z" (.int cz)) (hcz : ¬ cz = 0) :
    MetFree l (⟨"com/example/indexwright/indexwright/marketdata/KindOfPinLaw", "drawn", "(IIII)Ljava/lang/String;"⟩ : MethodName) (head1 (Jvm.Cond.code (⟨"com/example/indexwright/indexwright/marketdata/KindOfPinLaw", "drawn", "(IIII)Ljava/lang/String;"⟩ : MethodName) method_3_code 8 (some (.object "java/lang/String")) :: ws) ({ frames := 4, cells := 6, slots := 12, locals := 66 } : Room)) (fun a U => a = #[(.int x0), (.int x1), (.int x2), (.int x3)] ∧ Z.Warmed39 U.vm ∧ U.heap = h0 ∧ CHv Z own_EL U.vm h0 ∧ ∀ x ∈ ([] : List Addr), Safe Z own_EL U.vm h0 x) (fun _ _ _ _ _ => True) (fun _ U o U' => OwnEndW Z own_EL U (fun v h L => Fr n0 L ∧ Ext h0 h ∧ (v = some .null ∨ ∃ a bs, v = some (.ref a) ∧ OwnStr Z h a bs)) ({ frames := 4, cells := 6, slots := 12, locals := 66 } : Room).cells ({ frames := 4, cells := 6, slots := 12, locals := 66 } : Room).slots o U') := by
  refine MetFree.of_bodySF (plainFor_of_name dr_pn) hisR ?_
  intro p e s m args below meth c s₁ Bd hml0 hP hK
  obtain ⟨rfl, hZ, hh, hCH, hSL⟩ := hP
  have hx := Bd.exec
  have hby := Bd.bytes
  have hml : c.maxLocals = 8 := hml0
  have hown : s.vm.findClass "com/example/indexwright/indexwright/marketdata/KindOfPinLaw" = some m.cls := findClass_of_methodNamed Bd.named
  have hnm := (name_of_methodNamed Bd.named Bd.method).1
  have X0 : Stand p l e ({ frames := 4, cells := 6, slots := 12, locals := 66 } : Room) (s.setVm s.vm) m #[(.int x0), (.int x1), (.int x2), (.int x3)] below meth c s₁ [] 0 0 := Stand.of_body Bd
  have e0 : s₁.heap = h0 := by rw [← hh, Bd.state]; rfl
  have N0 := Fr.nil n0
  have KP0 := Keep.refl h0 []
  have hown : (s.setVm s.vm).vm.findClass "com/example/indexwright/indexwright/marketdata/KindOfPinLaw" = some m.cls := hown
  have hZ : Z.Warmed39 (s.setVm s.vm).vm := hZ
  have hS0 : s.Since s.vm 0 := (State.WarmedH.refl s).since 0
  have hk0 : 0 ≤ h0.size := Nat.zero_le _
  have CR0 : CHr Z own_EL s.vm h0 s.vm h0 := CHr.refl hCH
  have hEL := own_EW hw
  refine own_go (Q := (OwnEndW Z own_EL s (fun v h L => Fr n0 L ∧ Ext h0 h ∧ (v = some .null ∨ ∃ a bs, v = some (.ref a) ∧ OwnStr Z h a bs)) ({ frames := 4, cells := 6, slots := 12, locals := 66 } : Room).cells ({ frames := 4, cells := 6, slots := 12, locals := 66 } : Room).slots)) ?_
  refine own_back (fun t k => castTop (dr_ef m x0 x1 x2 x3) k) ?_
  show OwnGo p e below (s₁.setTop (mkF m 0 #[.val (.int x0), .val (.int x1), .val (.int x2), .val (.int x3), .unset, .unset, .unset, .unset] [])) _
  refine own_back (fun t k => XS.iloadN X0.here hx rfl (hb hby dr_d0) rfl k) ?_
  show OwnGo p e below (s₁.setTop (mkF m 1 #[.val (.int x0), .val (.int x1), .val (.int x2), .val (.int x3), .unset, .unset, .unset, .unset] [(.int x0)])) _
  refine own_back (fun t k => X0.ldcInt hx hown (mvT hZ (hw _ (List.mem_of_getElem? (i := 0) rfl))) (g := (mkF m 1 #[.val (.int x0), .val (.int x1), .val (.int x2), .val (.int x3), .unset, .unset, .unset, .unset] [(.int x0)])) rfl (hb hby dr_d1) t k) ?_
  show OwnGo p e below (s₁.setTop (mkF m 3 #[.val (.int x0), .val (.int x1), .val (.int x2), .val (.int x3), .unset, .unset, .unset, .unset] [(.int (2147483647 : Int32)), (.int x0)])) _
  refine own_back (fun t k => XS.iand X0.here hx rfl (hb hby dr_d3) rfl k) ?_
  show OwnGo p e below (s₁.setTop (mkF m 4 #[.val (.int x0), .val (.int x1), .val (.int x2), .val (.int x3), .unset, .unset, .unset, .unset] [(.int (x0 &&& (2147483647 : Int32)))])) _
  refine own_back (fun t k => XS.iconst X0.here hx rfl (hb hby dr_d4) k) ?_
  show OwnGo p e below (s₁.setTop (mkF m 5 #[.val (.int x0), .val (.int x1), .val (.int x2), .val (.int x3), .unset, .unset, .unset, .unset] [(.int (5 : Int32)), (.int (x0 &&& (2147483647 : Int32)))])) _
  refine own_back (fun t k => iremM X0 hx rfl (hb hby dr_d5) rfl (by decide) k) ?_
  show OwnGo p e below (s₁.setTop (mkF m 6 #[.val (.int x0), .val (.int x1), .val (.int x2), .val (.int x3), .unset, .unset, .unset, .unset] [(.int ((x0 &&& (2147483647 : Int32)) % (5 : Int32)))])) _
  refine own_back (fun t k => XS.istore X0.here hx rfl (hb hby dr_d6) rfl (l' := #[.val (.int x0), .val (.int x1), .val (.int x2), .val (.int x3), .val (.int ((x0 &&& (2147483647 : Int32)) % (5 : Int32))), .unset, .unset, .unset]) rfl k) ?_
  show OwnGo p e below (s₁.setTop (mkF m 8 #[.val (.int x0), .val (.int x1), .val (.int x2), .val (.int x3), .val (.int ((x0 &&& (2147483647 : Int32)) % (5 : Int32))), .unset, .unset, .unset] [])) _
  refine own_back (fun t k => XS.iload X0.here hx rfl (hb hby dr_d8) rfl k) ?_
  show OwnGo p e below (s₁.setTop (mkF m 10 #[.val (.int x0), .val (.int x1), .val (.int x2), .val (.int x3), .val (.int ((x0 &&& (2147483647 : Int32)) % (5 : Int32))), .unset, .unset, .unset] [(.int ((x0 &&& (2147483647 : Int32)) % (5 : Int32)))])) _
  refine own_back (fun t k => XS.iconst X0.here hx rfl (hb hby dr_d10) k) ?_
  show OwnGo p e below (s₁.setTop (mkF m 11 #[.val (.int x0), .val (.int x1), .val (.int x2), .val (.int x3), .val (.int ((x0 &&& (2147483647 : Int32)) % (5 : Int32))), .unset, .unset, .unset] [(.int (4 : Int32)), (.int ((x0 &&& (2147483647 : Int32)) % (5 : Int32)))])) _
  by_cases hc11_1039 : ((x0 &&& (2147483647 : Int32)) % (5 : Int32)) = (4 : Int32)
  · refine own_back (fun t k => XS.icmpNo X0.here hx rfl (hb hby dr_d11) rfl (Jvm.Free.XT.ii_ne_f hc11_1039) k) ?_
    show OwnGo p e below (s₁.setTop (mkF m 14 #[.val (.int x0), .val (.int x1), .val (.int x2), .val (.int x3), .val (.int ((x0 &&& (2147483647 : Int32)) % (5 : Int32))), .unset, .unset, .unset] [])) _
    refine own_back (fun t k => XS.aconstNull X0.here hx rfl (hb hby dr_d14) k) ?_
    show OwnGo p e below (s₁.setTop (mkF m 15 #[.val (.int x0), .val (.int x1), .val (.int x2), .val (.int x3), .val (.int ((x0 &&& (2147483647 : Int32)) % (5 : Int32))), .unset, .unset, .unset] [.null])) _
    refine own_retAW X0 hx Bd.notSynchronized Bd.returns rfl rfl hS0 hk0 hZ hEL (hh ▸ CR0) (hb hby dr_d15) e0 (Nat.le_of_ble_eq_true rfl) (Nat.le_of_ble_eq_true rfl) ?_
    exact ⟨N0, own_ext KP0, Or.inl rfl⟩
  · refine own_back (fun t k => XS.icmpYes X0.here hx rfl (pc0 := 11) (pc' := 16) rfl (hb hby dr_d11) rfl (Jvm.Free.XT.ii_ne_t hc11_1039) (by decide) (by decide) k) ?_
    show OwnGo p e below (s₁.setTop (mkF m 16 #[.val (.int x0), .val (.int x1), .val (.int x2), .val (.int x3), .val (.int ((x0 &&& (2147483647 : Int32)) % (5 : Int32))), .unset, .unset, .unset] [])) _
    refine own_back (fun t k => XS.iloadN X0.here hx rfl (hb hby dr_d16) rfl k) ?_
    show OwnGo p e below (s₁.setTop (mkF m 17 #[.val (.int x0), .val (.int x1), .val (.int x2), .val (.int x3), .val (.int ((x0 &&& (2147483647 : Int32)) % (5 : Int32))), .unset, .unset, .unset] [(.int x1)])) _
    refine own_back (fun t k => XS.sipush X0.here hx rfl (hb hby dr_d17) k) ?_
    show OwnGo p e below (s₁.setTop (mkF m 20 #[.val (.int x0), .val (.int x1), .val (.int x2), .val (.int x3), .val (.int ((x0 &&& (2147483647 : Int32)) % (5 : Int32))), .unset, .unset, .unset] [(.int (255 : Int32)), (.int x1)])) _
    refine own_back (fun t k => XS.iand X0.here hx rfl (hb hby dr_d20) rfl k) ?_
    show OwnGo p e below (s₁.setTop (mkF m 21 #[.val (.int x0), .val (.int x1), .val (.int x2), .val (.int x3), .val (.int ((x0 &&& (2147483647 : Int32)) % (5 : Int32))), .unset, .unset, .unset] [(.int (x1 &&& (255 : Int32)))])) _
    refine own_back (fun t k => XS.i2c X0.here hx rfl (hb hby dr_d21) rfl k) ?_
    show OwnGo p e below (s₁.setTop (mkF m 22 #[.val (.int x0), .val (.int x1), .val (.int x2), .val (.int x3), .val (.int ((x0 &&& (2147483647 : Int32)) % (5 : Int32))), .unset, .unset, .unset] [(.int (x1 &&& (255 : Int32)).toUInt32.toUInt16.toUInt32.toInt32)])) _
    refine own_back (fun t k => XS.istore X0.here hx rfl (hb hby dr_d22) rfl (l' := #[.val (.int x0), .val (.int x1), .val (.int x2), .val (.int x3), .val (.int ((x0 &&& (2147483647 : Int32)) % (5 : Int32))), .val (.int (x1 &&& (255 : Int32)).toUInt32.toUInt16.toUInt32.toInt32), .unset, .unset]) rfl k) ?_
    show OwnGo p e below (s₁.setTop (mkF m 24 #[.val (.int x0), .val (.int x1), .val (.int x2), .val (.int x3), .val (.int ((x0 &&& (2147483647 : Int32)) % (5 : Int32))), .val (.int (x1 &&& (255 : Int32)).toUInt32.toUInt16.toUInt32.toInt32), .unset, .unset] [])) _
    refine own_back (fun t k => XS.iloadN X0.here hx rfl (hb hby dr_d24) rfl k) ?_
    show OwnGo p e below (s₁.setTop (mkF m 25 #[.val (.int x0), .val (.int x1), .val (.int x2), .val (.int x3), .val (.int ((x0 &&& (2147483647 : Int32)) % (5 : Int32))), .val (.int (x1 &&& (255 : Int32)).toUInt32.toUInt16.toUInt32.toInt32), .unset, .unset] [(.int x2)])) _
    refine own_back (fun t k => XS.sipush X0.here hx rfl (hb hby dr_d25) k) ?_
    show OwnGo p e below (s₁.setTop (mkF m 28 #[.val (.int x0), .val (.int x1), .val (.int x2), .val (.int x3), .val (.int ((x0 &&& (2147483647 : Int32)) % (5 : Int32))), .val (.int (x1 &&& (255 : Int32)).toUInt32.toUInt16.toUInt32.toInt32), .unset, .unset] [(.int (255 : Int32)), (.int x2)])) _
    refine own_back (fun t k => XS.iand X0.here hx rfl (hb hby dr_d28) rfl k) ?_
    show OwnGo p e below (s₁.setTop (mkF m 29 #[.val (.int x0), .val (.int x1), .val (.int x2), .val (.int x3), .val (.int ((x0 &&& (2147483647 : Int32)) % (5 : Int32))), .val (.int (x1 &&& (255 : Int32)).toUInt32.toUInt16.toUInt32.toInt32), .unset, .unset] [(.int (x2 &&& (255 : Int32)))])) _
    refine own_back (fun t k => XS.i2c X0.here hx rfl (hb hby dr_d29) rfl k) ?_
    show OwnGo p e below (s₁.setTop (mkF m 30 #[.val (.int x0), .val (.int x1), .val (.int x2), .val (.int x3), .val (.int ((x0 &&& (2147483647 : Int32)) % (5 : Int32))), .val (.int (x1 &&& (255 : Int32)).toUInt32.toUInt16.toUInt32.toInt32), .unset, .unset] [(.int (x2 &&& (255 : Int32)).toUInt32.toUInt16.toUInt32.toInt32)])) _
    refine own_back (fun t k => XS.istore X0.here hx rfl (hb hby dr_d30) rfl (l' := #[.val (.int x0), .val (.int x1), .val (.int x2), .val (.int x3), .val (.int ((x0 &&& (2147483647 : Int32)) % (5 : Int32))), .val (.int (x1 &&& (255 : Int32)).toUInt32.toUInt16.toUInt32.toInt32), .val (.int (x2 &&& (255 : Int32)).toUInt32.toUInt16.toUInt32.toInt32), .unset]) rfl k) ?_
    show OwnGo p e below (s₁.setTop (mkF m 32 #[.val (.int x0), .val (.int x1), .val (.int x2), .val (.int x3), .val (.int ((x0 &&& (2147483647 : Int32)) % (5 : Int32))), .val (.int (x1 &&& (255 : Int32)).toUInt32.toUInt16.toUInt32.toInt32), .val (.int (x2 &&& (255 : Int32)).toUInt32.toUInt16.toUInt32.toInt32), .unset] [])) _
    refine own_back (fun t k => XS.iloadN X0.here hx rfl (hb hby dr_d32) rfl k) ?_
    show OwnGo p e below (s₁.setTop (mkF m 33 #[.val (.int x0), .val (.int x1), .val (.int x2), .val (.int x3), .val (.int ((x0 &&& (2147483647 : Int32)) % (5 : Int32))), .val (.int (x1 &&& (255 : Int32)).toUInt32.toUInt16.toUInt32.toInt32), .val (.int (x2 &&& (255 : Int32)).toUInt32.toUInt16.toUInt32.toInt32), .unset] [(.int x3)])) _
    refine own_back (fun t k => XS.sipush X0.here hx rfl (hb hby dr_d33) k) ?_
    show OwnGo p e below (s₁.setTop (mkF m 36 #[.val (.int x0), .val (.int x1), .val (.int x2), .val (.int x3), .val (.int ((x0 &&& (2147483647 : Int32)) % (5 : Int32))), .val (.int (x1 &&& (255 : Int32)).toUInt32.toUInt16.toUInt32.toInt32), .val (.int (x2 &&& (255 : Int32)).toUInt32.toUInt16.toUInt32.toInt32), .unset] [(.int (255 : Int32)), (.int x3)])) _
    refine own_back (fun t k => XS.iand X0.here hx rfl (hb hby dr_d36) rfl k) ?_
    show OwnGo p e below (s₁.setTop (mkF m 37 #[.val (.int x0), .val (.int x1), .val (.int x2), .val (.int x3), .val (.int ((x0 &&& (2147483647 : Int32)) % (5 : Int32))), .val (.int (x1 &&& (255 : Int32)).toUInt32.toUInt16.toUInt32.toInt32), .val (.int (x2 &&& (255 : Int32)).toUInt32.toUInt16.toUInt32.toInt32), .unset] [(.int (x3 &&& (255 : Int32)))])) _
    refine own_back (fun t k => XS.i2c X0.here hx rfl (hb hby dr_d37) rfl k) ?_
    show OwnGo p e below (s₁.setTop (mkF m 38 #[.val (.int x0), .val (.int x1), .val (.int x2), .val (.int x3), .val (.int ((x0 &&& (2147483647 : Int32)) % (5 : Int32))), .val (.int (x1 &&& (255 : Int32)).toUInt32.toUInt16.toUInt32.toInt32), .val (.int (x2 &&& (255 : Int32)).toUInt32.toUInt16.toUInt32.toInt32), .unset] [(.int (x3 &&& (255 : Int32)).toUInt32.toUInt16.toUInt32.toInt32)])) _
    refine own_back (fun t k => XS.istore X0.here hx rfl (hb hby dr_d38) rfl (l' := #[.val (.int x0), .val (.int x1), .val (.int x2), .val (.int x3), .val (.int ((x0 &&& (2147483647 : Int32)) % (5 : Int32))), .val (.int (x1 &&& (255 : Int32)).toUInt32.toUInt16.toUInt32.toInt32), .val (.int (x2 &&& (255 : Int32)).toUInt32.toUInt16.toUInt32.toInt32), .val (.int (x3 &&& (255 : Int32)).toUInt32.toUInt16.toUInt32.toInt32)]) rfl k) ?_
    show OwnGo p e below (s₁.setTop (mkF m 40 #[.val (.int x0), .val (.int x1), .val (.int x2), .val (.int x3), .val (.int ((x0 &&& (2147483647 : Int32)) % (5 : Int32))), .val (.int (x1 &&& (255 : Int32)).toUInt32.toUInt16.toUInt32.toInt32), .val (.int (x2 &&& (255 : Int32)).toUInt32.toUInt16.toUInt32.toInt32), .val (.int (x3 &&& (255 : Int32)).toUInt32.toUInt16.toUInt32.toInt32)] [])) _
    refine own_back (fun t k => XS.iload X0.here hx rfl (hb hby dr_d40) rfl k) ?_
    show OwnGo p e below (s₁.setTop (mkF m 42 #[.val (.int x0), .val (.int x1), .val (.int x2), .val (.int x3), .val (.int ((x0 &&& (2147483647 : Int32)) % (5 : Int32))), .val (.int (x1 &&& (255 : Int32)).toUInt32.toUInt16.toUInt32.toInt32), .val (.int (x2 &&& (255 : Int32)).toUInt32.toUInt16.toUInt32.toInt32), .val (.int (x3 &&& (255 : Int32)).toUInt32.toUInt16.toUInt32.toInt32)] [(.int ((x0 &&& (2147483647 : Int32)) % (5 : Int32)))])) _
    by_cases hc42_1040 : ((x0 &&& (2147483647 : Int32)) % (5 : Int32)) = (0 : Int32)
    · refine own_back (fun t k => XS.ifNo X0.here hx rfl (hb hby dr_d42) rfl (Jvm.Free.XT.i0_ne_f hc42_1040) k) ?_
      show OwnGo p e below (s₁.setTop (mkF m 45 #[.val (.int x0), .val (.int x1), .val (.int x2), .val (.int x3), .val (.int ((x0 &&& (2147483647 : Int32)) % (5 : Int32))), .val (.int (x1 &&& (255 : Int32)).toUInt32.toUInt16.toUInt32.toInt32), .val (.int (x2 &&& (255 : Int32)).toUInt32.toUInt16.toUInt32.toInt32), .val (.int (x3 &&& (255 : Int32)).toUInt32.toUInt16.toUInt32.toInt32)] [])) _
      obtain ⟨T1041, h1041, X1041, e1041, E1041, A1041, D1041, -, st1041⟩ := newO X0 hx hZ hown (hw _ (List.mem_of_getElem? (i := 6) rfl)) (hw _ (List.mem_of_getElem? (i := 7) rfl)) (hw _ (List.mem_of_getElem? (i := 8) rfl)) e0 (g := (mkF m 45 #[.val (.int x0), .val (.int x1), .val (.int x2), .val (.int x3), .val (.int ((x0 &&& (2147483647 : Int32)) % (5 : Int32))), .val (.int (x1 &&& (255 : Int32)).toUInt32.toUInt16.toUInt32.toInt32), .val (.int (x2 &&& (255 : Int32)).toUInt32.toUInt16.toUInt32.toInt32), .val (.int (x3 &&& (255 : Int32)).toUInt32.toUInt16.toUInt32.toInt32)] [])) rfl (hb hby dr_d45) (Nat.le_of_ble_eq_true rfl) (Nat.le_of_ble_eq_true rfl)
      obtain ⟨b1041, g1041⟩ : ∃ z, z = h0.size := ⟨_, rfl⟩
      have ge1042 : n0 ≤ b1041 := Nat.le_trans Z0 (Nat.le_of_eq g1041.symm)
      have sz1043 : h0.size ≤ b1041 := Nat.le_trans KP0.1 (Nat.le_of_eq g1041.symm)
      rw [← g1041] at A1041 D1041 st1041
      have O1044 := OL.ext E1041
      have KP1045 := KP0.ext E1041
      have Zs1046 := Nat.le_trans Z0 E1041.1
      have CR1047 := CR0.trans (CHr.ext E1041 CR0.1)
      have hk1048 := Nat.le_trans hk0 E1041.1
      have F1049 : Fld Z h1041 b1041 "java/lang/String" "coder" "B" (.int (0 : Int32)) := D1041 (Or.inr (hw _ (List.mem_of_getElem? (i := 32) rfl))) (ty := .byte) (by decide)
      have F1050 : Fld Z h1041 b1041 "java/lang/String" "value" "[B" .null := D1041 (Or.inr (hw _ (List.mem_of_getElem? (i := 34) rfl))) (ty := (.array .byte)) (by decide)
      have sf1051 := Safe.ext E1041 CR0.1 (Safe.new (Nat.le_of_eq g1041.symm))
      refine own_back st1041 ?_
      show OwnGo p e below (T1041.setTop (mkF m 48 #[.val (.int x0), .val (.int x1), .val (.int x2), .val (.int x3), .val (.int ((x0 &&& (2147483647 : Int32)) % (5 : Int32))), .val (.int (x1 &&& (255 : Int32)).toUInt32.toUInt16.toUInt32.toInt32), .val (.int (x2 &&& (255 : Int32)).toUInt32.toUInt16.toUInt32.toInt32), .val (.int (x3 &&& (255 : Int32)).toUInt32.toUInt16.toUInt32.toInt32)] [(.ref b1041)])) _
      refine own_back (fun t k => XS.dup X1041.here hx rfl (hb hby dr_d48) rfl rfl k) ?_
      show OwnGo p e below (T1041.setTop (mkF m 49 #[.val (.int x0), .val (.int x1), .val (.int x2), .val (.int x3), .val (.int ((x0 &&& (2147483647 : Int32)) % (5 : Int32))), .val (.int (x1 &&& (255 : Int32)).toUInt32.toUInt16.toUInt32.toInt32), .val (.int (x2 &&& (255 : Int32)).toUInt32.toUInt16.toUInt32.toInt32), .val (.int (x3 &&& (255 : Int32)).toUInt32.toUInt16.toUInt32.toInt32)] [(.ref b1041), (.ref b1041)])) _
      refine own_back (fun t k => XS.iconst X1041.here hx rfl (hb hby dr_d49) k) ?_
      show OwnGo p e below (T1041.setTop (mkF m 50 #[.val (.int x0), .val (.int x1), .val (.int x2), .val (.int x3), .val (.int ((x0 &&& (2147483647 : Int32)) % (5 : Int32))), .val (.int (x1 &&& (255 : Int32)).toUInt32.toUInt16.toUInt32.toInt32), .val (.int (x2 &&& (255 : Int32)).toUInt32.toUInt16.toUInt32.toInt32), .val (.int (x3 &&& (255 : Int32)).toUInt32.toUInt16.toUInt32.toInt32)] [(.int (0 : Int32)), (.ref b1041), (.ref b1041)])) _
      obtain ⟨T1052, h1052, k1052, X1052, e1052, E1052, A1052, st1052⟩ := newP X1041 hx hZ (hw _ (List.mem_of_getElem? (i := 5) rfl)) e1041 (g := (mkF m 50 #[.val (.int x0), .val (.int x1), .val (.int x2), .val (.int x3), .val (.int ((x0 &&& (2147483647 : Int32)) % (5 : Int32))), .val (.int (x1 &&& (255 : Int32)).toUInt32.toUInt16.toUInt32.toInt32), .val (.int (x2 &&& (255 : Int32)).toUInt32.toUInt16.toUInt32.toInt32), .val (.int (x3 &&& (255 : Int32)).toUInt32.toUInt16.toUInt32.toInt32)] [(.int (0 : Int32)), (.ref b1041), (.ref b1041)])) rfl (hb hby dr_d50) rfl (by decide) (cap := 0) (by decide) (by decide) (Nat.le_of_ble_eq_true rfl) (Nat.le_of_ble_eq_true rfl)
      obtain ⟨b1052, g1052⟩ : ∃ z, z = h1041.size := ⟨_, rfl⟩
      have ge1053 : n0 ≤ b1052 := Nat.le_trans Zs1046 (Nat.le_of_eq g1052.symm)
      have sz1054 : h0.size ≤ b1052 := Nat.le_trans KP1045.1 (Nat.le_of_eq g1052.symm)
      rw [← g1052] at A1052 st1052
      have O1055 := O1044.ext E1052
      have KP1056 := KP1045.ext E1052
      have Zs1057 := Nat.le_trans Zs1046 E1052.1
      have CR1058 := CR1047.trans (CHr.ext E1052 CR1047.1)
      have hk1059 := Nat.le_trans hk1048 E1052.1
      have f1060 := A1041.ext E1052
      have f1061 := F1049.ext E1052
      have f1062 := F1050.ext E1052
      have f1063 := (Safe.ext E1052 CR1047.1 sf1051)
      have V1064 : Arv Z h1052 b1052 k1052 .char (0 : Int32) [] (.int (0 : Int32)) := (Arv.new A1052 (by decide)).pad (pad_rep [] (.int (0 : Int32)) 0)
      have sf1065 := Safe.ext E1052 CR1047.1 (Safe.new (Nat.le_of_eq g1052.symm))
      refine own_back st1052 ?_
      show OwnGo p e below (T1052.setTop (mkF m 52 #[.val (.int x0), .val (.int x1), .val (.int x2), .val (.int x3), .val (.int ((x0 &&& (2147483647 : Int32)) % (5 : Int32))), .val (.int (x1 &&& (255 : Int32)).toUInt32.toUInt16.toUInt32.toInt32), .val (.int (x2 &&& (255 : Int32)).toUInt32.toUInt16.toUInt32.toInt32), .val (.int (x3 &&& (255 : Int32)).toUInt32.toUInt16.toUInt32.toInt32)] [(.ref b1052), (.ref b1041), (.ref b1041)])) _
      obtain ⟨_, _, ⟨T1066, L1066, k1066, n1066⟩, -, X1066, hSn1066, hgr1066, ⟨Lc1066, hQ1066, l1066, y1066, z1066, CRn1066⟩, st1066⟩ := X1052.specialBackS hx (y := (⟨"java/lang/String", "<init>", "([C)V"⟩ : MethodName)) rfl hown (mvT hZ (hw _ (List.mem_of_getElem? (i := 9) rfl))) (mvT hZ (hw _ (List.mem_of_getElem? (i := 10) rfl))) (mvT hZ (hw _ (List.mem_of_getElem? (i := 11) rfl))) (by decide) (own_backH (W := 1) (rm_si1 l Z a0 hw [] b1041 b1052 (.int 0) .null k1052 h1052 n0 Zs1057 O1055 f1060 f1061 f1062 ge1042 V1064) hZ (hw _ (List.mem_of_getElem? (i := 11) rfl)) (hw _ (List.mem_of_getElem? (i := 8) rfl)) (by decide) (by decide) hEL CR1058.1 (sfS f1063 sf0) (allS f1060.lt all0)) (g := (mkF m 52 #[.val (.int x0), .val (.int x1), .val (.int x2), .val (.int x3), .val (.int ((x0 &&& (2147483647 : Int32)) % (5 : Int32))), .val (.int (x1 &&& (255 : Int32)).toUInt32.toUInt16.toUInt32.toInt32), .val (.int (x2 &&& (255 : Int32)).toUInt32.toUInt16.toUInt32.toInt32), .val (.int (x3 &&& (255 : Int32)).toUInt32.toUInt16.toUInt32.toInt32)] [(.ref b1052), (.ref b1041), (.ref b1041)])) rfl (by rw [hml]; rfl) (Steps.refl _) (a := b1041) (argsL := [(.ref b1052)]) (rest := [(.ref b1041)]) (lenOf dr_pd0 rfl) rfl (by show 2 * 0 + _ ≤ _; exact Nat.le_of_eq rfl) (hb hby dr_d52) (fun _ _ => ⟨rfl, e1052, Nat.le_of_ble_eq_true rfl, Nat.le_of_ble_eq_true rfl⟩)
      dsimp only [Pt.U, Pt.locs, Pt.cells, Pt.slots] at X1066 l1066 y1066 z1066 st1066 hQ1066 hSn1066 hgr1066 CRn1066
      subst l1066 y1066 z1066
      obtain ⟨Xr1066, hSr1066, hZr1066, hownr1066⟩ := rebS hS0 (own_hle e1052 hk1059) X1066 hSn1066 hgr1066 hZ hown
      obtain ⟨rfl, N1066q, K1066, B1066⟩ := hQ1066
      refine own_seq st1066 ?_
      have N1066 := Fr.app N0 N1066q
      have O1067 := O1055.keep K1066 (allS ge1042 all0)
      have KP1068 := KP1056.trans K1066 (allS (Or.inr sz1043) all0)
      have Zs1069 := Nat.le_trans Zs1057 K1066.1
      have CR1070 := CR1058.trans CRn1066
      have f1071 := f1060.keep K1066
      have f1072 := (CRn1066.safe f1060.lt f1063)
      have f1073 := V1064.keep K1066 (ninS (Ne.symm (Nat.ne_of_lt (Nat.lt_of_lt_of_le A1041.lt (Nat.le_of_eq g1052.symm)))) nin0)
      have f1074 := (CRn1066.safe V1064.lt sf1065)
      show OwnGo p e below (T1066.setTop (mkF m 55 #[.val (.int x0), .val (.int x1), .val (.int x2), .val (.int x3), .val (.int ((x0 &&& (2147483647 : Int32)) % (5 : Int32))), .val (.int (x1 &&& (255 : Int32)).toUInt32.toUInt16.toUInt32.toInt32), .val (.int (x2 &&& (255 : Int32)).toUInt32.toUInt16.toUInt32.toInt32), .val (.int (x3 &&& (255 : Int32)).toUInt32.toUInt16.toUInt32.toInt32)] [(.ref b1041)])) _
      refine own_retAW Xr1066 hx Bd.notSynchronized Bd.returns rfl rfl hSr1066 (Nat.le_refl _) hZr1066 hEL (hh ▸ CR1070) (hb hby dr_d55) rfl (Nat.le_of_ble_eq_true rfl) (Nat.le_of_ble_eq_true rfl) ?_
      exact ⟨N1066, own_ext KP1068, Or.inr ⟨b1041, _, rfl, B1066⟩⟩
    · refine own_back (fun t k => XS.ifYes X0.here hx rfl (pc0 := 42) (pc' := 56) rfl (hb hby dr_d42) rfl (Jvm.Free.XT.i0_ne_t hc42_1040) (by decide) (by decide) k) ?_
      show OwnGo p e below (s₁.setTop (mkF m 56 #[.val (.int x0), .val (.int x1), .val (.int x2), .val (.int x3), .val (.int ((x0 &&& (2147483647 : Int32)) % (5 : Int32))), .val (.int (x1 &&& (255 : Int32)).toUInt32.toUInt16.toUInt32.toInt32), .val (.int (x2 &&& (255 : Int32)).toUInt32.toUInt16.toUInt32.toInt32), .val (.int (x3 &&& (255 : Int32)).toUInt32.toUInt16.toUInt32.toInt32)] [])) _
      refine own_back (fun t k => XS.iload X0.here hx rfl (hb hby dr_d56) rfl k) ?_
      show OwnGo p e below (s₁.setTop (mkF m 58 #[.val (.int x0), .val (.int x1), .val (.int x2), .val (.int x3), .val (.int ((x0 &&& (2147483647 : Int32)) % (5 : Int32))), .val (.int (x1 &&& (255 : Int32)).toUInt32.toUInt16.toUInt32.toInt32), .val (.int (x2 &&& (255 : Int32)).toUInt32.toUInt16.toUInt32.toInt32), .val (.int (x3 &&& (255 : Int32)).toUInt32.toUInt16.toUInt32.toInt32)] [(.int ((x0 &&& (2147483647 : Int32)) % (5 : Int32)))])) _
      refine own_back (fun t k => XS.iconst X0.here hx rfl (hb hby dr_d58) k) ?_
      show OwnGo p e below (s₁.setTop (mkF m 59 #[.val (.int x0), .val (.int x1), .val (.int x2), .val (.int x3), .val (.int ((x0 &&& (2147483647 : Int32)) % (5 : Int32))), .val (.int (x1 &&& (255 : Int32)).toUInt32.toUInt16.toUInt32.toInt32), .val (.int (x2 &&& (255 : Int32)).toUInt32.toUInt16.toUInt32.toInt32), .val (.int (x3 &&& (255 : Int32)).toUInt32.toUInt16.toUInt32.toInt32)] [(.int (1 : Int32)), (.int ((x0 &&& (2147483647 : Int32)) % (5 : Int32)))])) _
      by_cases hc59_1075 : ((x0 &&& (2147483647 : Int32)) % (5 : Int32)) = (1 : Int32)
      · refine own_back (fun t k => XS.icmpNo X0.here hx rfl (hb hby dr_d59) rfl (Jvm.Free.XT.ii_ne_f hc59_1075) k) ?_
        show OwnGo p e below (s₁.setTop (mkF m 62 #[.val (.int x0), .val (.int x1), .val (.int x2), .val (.int x3), .val (.int ((x0 &&& (2147483647 : Int32)) % (5 : Int32))), .val (.int (x1 &&& (255 : Int32)).toUInt32.toUInt16.toUInt32.toInt32), .val (.int (x2 &&& (255 : Int32)).toUInt32.toUInt16.toUInt32.toInt32), .val (.int (x3 &&& (255 : Int32)).toUInt32.toUInt16.toUInt32.toInt32)] [])) _
        obtain ⟨T1076, h1076, X1076, e1076, E1076, A1076, D1076, -, st1076⟩ := newO X0 hx hZ hown (hw _ (List.mem_of_getElem? (i := 6) rfl)) (hw _ (List.mem_of_getElem? (i := 7) rfl)) (hw _ (List.mem_of_getElem? (i := 8) rfl)) e0 (g := (mkF m 62 #[.val (.int x0), .val (.int x1), .val (.int x2), .val (.int x3), .val (.int ((x0 &&& (2147483647 : Int32)) % (5 : Int32))), .val (.int (x1 &&& (255 : Int32)).toUInt32.toUInt16.toUInt32.toInt32), .val (.int (x2 &&& (255 : Int32)).toUInt32.toUInt16.toUInt32.toInt32), .val (.int (x3 &&& (255 : Int32)).toUInt32.toUInt16.toUInt32.toInt32)] [])) rfl (hb hby dr_d62) (Nat.le_of_ble_eq_true rfl) (Nat.le_of_ble_eq_true rfl)
        obtain ⟨b1076, g1076⟩ : ∃ z, z = h0.size := ⟨_, rfl⟩
        have ge1077 : n0 ≤ b1076 := Nat.le_trans Z0 (Nat.le_of_eq g1076.symm)
        have sz1078 : h0.size ≤ b1076 := Nat.le_trans KP0.1 (Nat.le_of_eq g1076.symm)
        rw [← g1076] at A1076 D1076 st1076
        have O1079 := OL.ext E1076
        have KP1080 := KP0.ext E1076
        have Zs1081 := Nat.le_trans Z0 E1076.1
        have CR1082 := CR0.trans (CHr.ext E1076 CR0.1)
        have hk1083 := Nat.le_trans hk0 E1076.1
        have F1084 : Fld Z h1076 b1076 "java/lang/String" "coder" "B" (.int (0 : Int32)) := D1076 (Or.inr (hw _ (List.mem_of_getElem? (i := 32) rfl))) (ty := .byte) (by decide)
        have F1085 : Fld Z h1076 b1076 "java/lang/String" "value" "[B" .null := D1076 (Or.inr (hw _ (List.mem_of_getElem? (i := 34) rfl))) (ty := (.array .byte)) (by decide)
        have sf1086 := Safe.ext E1076 CR0.1 (Safe.new (Nat.le_of_eq g1076.symm))
        refine own_back st1076 ?_
        show OwnGo p e below (T1076.setTop (mkF m 65 #[.val (.int x0), .val (.int x1), .val (.int x2), .val (.int x3), .val (.int ((x0 &&& (2147483647 : Int32)) % (5 : Int32))), .val (.int (x1 &&& (255 : Int32)).toUInt32.toUInt16.toUInt32.toInt32), .val (.int (x2 &&& (255 : Int32)).toUInt32.toUInt16.toUInt32.toInt32), .val (.int (x3 &&& (255 : Int32)).toUInt32.toUInt16.toUInt32.toInt32)] [(.ref b1076)])) _
        refine own_back (fun t k => XS.dup X1076.here hx rfl (hb hby dr_d65) rfl rfl k) ?_
        show OwnGo p e below (T1076.setTop (mkF m 66 #[.val (.int x0), .val (.int x1), .val (.int x2), .val (.int x3), .val (.int ((x0 &&& (2147483647 : Int32)) % (5 : Int32))), .val (.int (x1 &&& (255 : Int32)).toUInt32.toUInt16.toUInt32.toInt32), .val (.int (x2 &&& (255 : Int32)).toUInt32.toUInt16.toUInt32.toInt32), .val (.int (x3 &&& (255 : Int32)).toUInt32.toUInt16.toUInt32.toInt32)] [(.ref b1076), (.ref b1076)])) _
        refine own_back (fun t k => XS.iconst X1076.here hx rfl (hb hby dr_d66) k) ?_
        show OwnGo p e below (T1076.setTop (mkF m 67 #[.val (.int x0), .val (.int x1), .val (.int x2), .val (.int x3), .val (.int ((x0 &&& (2147483647 : Int32)) % (5 : Int32))), .val (.int (x1 &&& (255 : Int32)).toUInt32.toUInt16.toUInt32.toInt32), .val (.int (x2 &&& (255 : Int32)).toUInt32.toUInt16.toUInt32.toInt32), .val (.int (x3 &&& (255 : Int32)).toUInt32.toUInt16.toUInt32.toInt32)] [(.int (1 : Int32)), (.ref b1076), (.ref b1076)])) _
        obtain ⟨T1087, h1087, k1087, X1087, e1087, E1087, A1087, st1087⟩ := newP X1076 hx hZ (hw _ (List.mem_of_getElem? (i := 5) rfl)) e1076 (g := (mkF m 67 #[.val (.int x0), .val (.int x1), .val (.int x2), .val (.int x3), .val (.int ((x0 &&& (2147483647 : Int32)) % (5 : Int32))), .val (.int (x1 &&& (255 : Int32)).toUInt32.toUInt16.toUInt32.toInt32), .val (.int (x2 &&& (255 : Int32)).toUInt32.toUInt16.toUInt32.toInt32), .val (.int (x3 &&& (255 : Int32)).toUInt32.toUInt16.toUInt32.toInt32)] [(.int (1 : Int32)), (.ref b1076), (.ref b1076)])) rfl (hb hby dr_d67) rfl (by decide) (cap := 1) (by decide) (by decide) (Nat.le_of_ble_eq_true rfl) (Nat.le_of_ble_eq_true rfl)
        obtain ⟨b1087, g1087⟩ : ∃ z, z = h1076.size := ⟨_, rfl⟩
        have ge1088 : n0 ≤ b1087 := Nat.le_trans Zs1081 (Nat.le_of_eq g1087.symm)
        have sz1089 : h0.size ≤ b1087 := Nat.le_trans KP1080.1 (Nat.le_of_eq g1087.symm)
        rw [← g1087] at A1087 st1087
        have O1090 := O1079.ext E1087
        have KP1091 := KP1080.ext E1087
        have Zs1092 := Nat.le_trans Zs1081 E1087.1
        have CR1093 := CR1082.trans (CHr.ext E1087 CR1082.1)
        have hk1094 := Nat.le_trans hk1083 E1087.1
        have f1095 := A1076.ext E1087
        have f1096 := F1084.ext E1087
        have f1097 := F1085.ext E1087
        have f1098 := (Safe.ext E1087 CR1082.1 sf1086)
        have V1099 : Arv Z h1087 b1087 k1087 .char (1 : Int32) [(.int (0 : Int32))] (.int (0 : Int32)) := (Arv.new A1087 (by decide)).pad (pad_rep [] (.int (0 : Int32)) 1)
        have sf1100 := Safe.ext E1087 CR1082.1 (Safe.new (Nat.le_of_eq g1087.symm))
        refine own_back st1087 ?_
        show OwnGo p e below (T1087.setTop (mkF m 69 #[.val (.int x0), .val (.int x1), .val (.int x2), .val (.int x3), .val (.int ((x0 &&& (2147483647 : Int32)) % (5 : Int32))), .val (.int (x1 &&& (255 : Int32)).toUInt32.toUInt16.toUInt32.toInt32), .val (.int (x2 &&& (255 : Int32)).toUInt32.toUInt16.toUInt32.toInt32), .val (.int (x3 &&& (255 : Int32)).toUInt32.toUInt16.toUInt32.toInt32)] [(.ref b1087), (.ref b1076), (.ref b1076)])) _
        refine own_back (fun t k => XS.dup X1087.here hx rfl (hb hby dr_d69) rfl rfl k) ?_
        show OwnGo p e below (T1087.setTop (mkF m 70 #[.val (.int x0), .val (.int x1), .val (.int x2), .val (.int x3), .val (.int ((x0 &&& (2147483647 : Int32)) % (5 : Int32))), .val (.int (x1 &&& (255 : Int32)).toUInt32.toUInt16.toUInt32.toInt32), .val (.int (x2 &&& (255 : Int32)).toUInt32.toUInt16.toUInt32.toInt32), .val (.int (x3 &&& (255 : Int32)).toUInt32.toUInt16.toUInt32.toInt32)] [(.ref b1087), (.ref b1087), (.ref b1076), (.ref b1076)])) _
        refine own_back (fun t k => XS.iconst X1087.here hx rfl (hb hby dr_d70) k) ?_
        show OwnGo p e below (T1087.setTop (mkF m 71 #[.val (.int x0), .val (.int x1), .val (.int x2), .val (.int x3), .val (.int ((x0 &&& (2147483647 : Int32)) % (5 : Int32))), .val (.int (x1 &&& (255 : Int32)).toUInt32.toUInt16.toUInt32.toInt32), .val (.int (x2 &&& (255 : Int32)).toUInt32.toUInt16.toUInt32.toInt32), .val (.int (x3 &&& (255 : Int32)).toUInt32.toUInt16.toUInt32.toInt32)] [(.int (0 : Int32)), (.ref b1087), (.ref b1087), (.ref b1076), (.ref b1076)])) _
        refine own_back (fun t k => XS.iload X1087.here hx rfl (hb hby dr_d71) rfl k) ?_
        show OwnGo p e below (T1087.setTop (mkF m 73 #[.val (.int x0), .val (.int x1), .val (.int x2), .val (.int x3), .val (.int ((x0 &&& (2147483647 : Int32)) % (5 : Int32))), .val (.int (x1 &&& (255 : Int32)).toUInt32.toUInt16.toUInt32.toInt32), .val (.int (x2 &&& (255 : Int32)).toUInt32.toUInt16.toUInt32.toInt32), .val (.int (x3 &&& (255 : Int32)).toUInt32.toUInt16.toUInt32.toInt32)] [(.int (x1 &&& (255 : Int32)).toUInt32.toUInt16.toUInt32.toInt32), (.int (0 : Int32)), (.ref b1087), (.ref b1087), (.ref b1076), (.ref b1076)])) _
        obtain ⟨c1101, A1101, q1101, S1101, M1101, H1101, U1101⟩ := id V1099
        obtain ⟨T1102, h1102, X1102, e1102, W1102, st1102⟩ := stC X1087 hx hZ e1087 A1101 (j := (0 : Int32)) (inb_of S1101 ⟨by decide, by decide⟩) (g := (mkF m 73 #[.val (.int x0), .val (.int x1), .val (.int x2), .val (.int x3), .val (.int ((x0 &&& (2147483647 : Int32)) % (5 : Int32))), .val (.int (x1 &&& (255 : Int32)).toUInt32.toUInt16.toUInt32.toInt32), .val (.int (x2 &&& (255 : Int32)).toUInt32.toUInt16.toUInt32.toInt32), .val (.int (x3 &&& (255 : Int32)).toUInt32.toUInt16.toUInt32.toInt32)] [(.int (x1 &&& (255 : Int32)).toUInt32.toUInt16.toUInt32.toInt32), (.int (0 : Int32)), (.ref b1087), (.ref b1087), (.ref b1076), (.ref b1076)])) rfl rfl (hb hby dr_d73)
        have O1103 := O1090.wr W1102 ge1088
        have KP1104 := KP1091.wr W1102 (Or.inr sz1089)
        have Zs1105 := Nat.le_trans Zs1092 (Keep.of_wr W1102).1
        have CR1106 := CR1093.trans (CHr.wr W1102 sf1100 CR1093.1)
        have hk1107 := Nat.le_trans hk1094 (Keep.of_wr W1102).1
        have f1108 := f1095.wr W1102
        have f1109 := f1096.other W1102 (Or.inl (Nat.ne_of_lt (Nat.lt_of_lt_of_le A1076.lt (Nat.le_of_eq g1087.symm))))
        have f1110 := f1097.other W1102 (Or.inl (Nat.ne_of_lt (Nat.lt_of_lt_of_le A1076.lt (Nat.le_of_eq g1087.symm))))
        have f1111 := (Safe.wr W1102 sf1100 CR1093.1 f1098)
        have f1112 := (Safe.wr W1102 sf1100 CR1093.1 sf1100)
        have V1113 : Arv Z h1102 b1087 k1087 .char (1 : Int32) [(.int (nar .char (x1 &&& (255 : Int32)).toUInt32.toUInt16.toUInt32.toInt32))] (.int (0 : Int32)) := Arv.set A1101 q1101 S1101 M1101 H1101 U1101 (fits_nar_char _) W1102 0 rfl (Nat.le_of_ble_eq_true rfl)
        have N1114 := Fr.snoc X1102 N0 ge1088
        refine own_back st1102 ?_
        show OwnGo p e below (T1102.setTop (mkF m 74 #[.val (.int x0), .val (.int x1), .val (.int x2), .val (.int x3), .val (.int ((x0 &&& (2147483647 : Int32)) % (5 : Int32))), .val (.int (x1 &&& (255 : Int32)).toUInt32.toUInt16.toUInt32.toInt32), .val (.int (x2 &&& (255 : Int32)).toUInt32.toUInt16.toUInt32.toInt32), .val (.int (x3 &&& (255 : Int32)).toUInt32.toUInt16.toUInt32.toInt32)] [(.ref b1087), (.ref b1076), (.ref b1076)])) _
        obtain ⟨_, _, ⟨T1115, L1115, k1115, n1115⟩, -, X1115, ⟨Lc1115, hQ1115, l1115, y1115, z1115⟩, st1115⟩ := X1102.specialBack hx (y := (⟨"java/lang/String", "<init>", "([C)V"⟩ : MethodName)) rfl hown (mvT hZ (hw _ (List.mem_of_getElem? (i := 9) rfl))) (mvT hZ (hw _ (List.mem_of_getElem? (i := 10) rfl))) (mvT hZ (hw _ (List.mem_of_getElem? (i := 11) rfl))) (by decide) (StrChars.Road.backV (W := 1) hZ (own_wV hw) (kI := 4) (hw _ (List.mem_of_getElem? (i := 7) rfl)) (cs := ([(nar .char (x1 &&& (255 : Int32)).toUInt32.toUInt16.toUInt32.toInt32)] : List Int32)) (bs := ([(nar .char (x1 &&& (255 : Int32)).toUInt32.toUInt16.toUInt32.toInt32)] : List Int32).map (fun c => c.toInt8.toInt32)) (n := 1) ge1077 Zs1105 f1108 f1110 f1109 V1113 (SC.ext O1103.2) hcz rfl rfl (by decide) (by decide) (own_allS (own_c255 _) own_all0) rfl (by decide) (by decide)) (g := (mkF m 74 #[.val (.int x0), .val (.int x1), .val (.int x2), .val (.int x3), .val (.int ((x0 &&& (2147483647 : Int32)) % (5 : Int32))), .val (.int (x1 &&& (255 : Int32)).toUInt32.toUInt16.toUInt32.toInt32), .val (.int (x2 &&& (255 : Int32)).toUInt32.toUInt16.toUInt32.toInt32), .val (.int (x3 &&& (255 : Int32)).toUInt32.toUInt16.toUInt32.toInt32)] [(.ref b1087), (.ref b1076), (.ref b1076)])) rfl (by rw [hml]; rfl) (Steps.refl _) (a := b1076) (argsL := [(.ref b1087)]) (rest := [(.ref b1076)]) (lenOf dr_pd0 rfl) rfl (by show 2 * 0 + _ ≤ _; exact Nat.le_of_eq rfl) (hb hby dr_d74) (fun _ _ => ⟨rfl, e1102, Nat.le_of_ble_eq_true rfl, Nat.le_of_ble_eq_true rfl⟩)
        dsimp only [Pt.U, Pt.locs, Pt.cells, Pt.slots] at X1115 l1115 y1115 z1115 st1115 hQ1115
        subst l1115 y1115 z1115
        obtain ⟨rfl, N1115q, K1115, EX1115, C1115, t1115, kb1115, gt1115, zt1115, nt1115, FV1115, AV1115⟩ := hQ1115
        refine own_seq st1115 ?_
        have N1115 := Fr.app N1114 N1115q
        have O1116 := O1103.keep K1115 (allS ge1077 all0)
        have KP1117 := KP1104.trans K1115 (allS (Or.inr sz1078) all0)
        have Zs1118 := Nat.le_trans Zs1105 K1115.1
        have CR1119 := CR1106.trans (CHr.keep K1115 (sfS f1111 sf0) CR1106.1)
        have hk1120 := Nat.le_trans hk1107 K1115.1
        have f1121 := f1108.keep K1115
        have f1122 := (Safe.keep K1115 (sfS f1111 sf0) CR1106.1 f1111)
        have f1123 := (Safe.keep K1115 (sfS f1111 sf0) CR1106.1 f1112)
        have f1124 := V1113.keep K1115 (ninS (Ne.symm (Nat.ne_of_lt (Nat.lt_of_lt_of_le A1076.lt (Nat.le_of_eq g1087.symm)))) nin0)
        show OwnGo p e below (T1115.setTop (mkF m 77 #[.val (.int x0), .val (.int x1), .val (.int x2), .val (.int x3), .val (.int ((x0 &&& (2147483647 : Int32)) % (5 : Int32))), .val (.int (x1 &&& (255 : Int32)).toUInt32.toUInt16.toUInt32.toInt32), .val (.int (x2 &&& (255 : Int32)).toUInt32.toUInt16.toUInt32.toInt32), .val (.int (x3 &&& (255 : Int32)).toUInt32.toUInt16.toUInt32.toInt32)] [(.ref b1076)])) _
        refine own_retAW X1115 hx Bd.notSynchronized Bd.returns rfl rfl hS0 hk1120 hZ hEL (hh ▸ CR1119) (hb hby dr_d77) rfl (Nat.le_of_ble_eq_true rfl) (Nat.le_of_ble_eq_true rfl) ?_
        exact ⟨N1115, own_ext KP1117, Or.inr ⟨b1076, _, rfl, (⟨t1115, kb1115, EX1115, C1115, FV1115, AV1115, Nat.le_of_ble_eq_true rfl⟩ : OwnStr Z T1115.heap b1076 [((nar .char (x1 &&& (255 : Int32)).toUInt32.toUInt16.toUInt32.toInt32)).toInt8.toInt32])⟩⟩
      · refine own_back (fun t k => XS.icmpYes X0.here hx rfl (pc0 := 59) (pc' := 78) rfl (hb hby dr_d59) rfl (Jvm.Free.XT.ii_ne_t hc59_1075) (by decide) (by decide) k) ?_
        show OwnGo p e below (s₁.setTop (mkF m 78 #[.val (.int x0), .val (.int x1), .val (.int x2), .val (.int x3), .val (.int ((x0 &&& (2147483647 : Int32)) % (5 : Int32))), .val (.int (x1 &&& (255 : Int32)).toUInt32.toUInt16.toUInt32.toInt32), .val (.int (x2 &&& (255 : Int32)).toUInt32.toUInt16.toUInt32.toInt32), .val (.int (x3 &&& (255 : Int32)).toUInt32.toUInt16.toUInt32.toInt32)] [])) _
        refine own_back (fun t k => XS.iload X0.here hx rfl (hb hby dr_d78) rfl k) ?_
        show OwnGo p e below (s₁.setTop (mkF m 80 #[.val (.int x0), .val (.int x1), .val (.int x2), .val (.int x3), .val (.int ((x0 &&& (2147483647 : Int32)) % (5 : Int32))), .val (.int (x1 &&& (255 : Int32)).toUInt32.toUInt16.toUInt32.toInt32), .val (.int (x2 &&& (255 : Int32)).toUInt32.toUInt16.toUInt32.toInt32), .val (.int (x3 &&& (255 : Int32)).toUInt32.toUInt16.toUInt32.toInt32)] [(.int ((x0 &&& (2147483647 : Int32)) % (5 : Int32)))])) _
        refine own_back (fun t k => XS.iconst X0.here hx rfl (hb hby dr_d80) k) ?_
        show OwnGo p e below (s₁.setTop (mkF m 81 #[.val (.int x0), .val (.int x1), .val (.int x2), .val (.int x3), .val (.int ((x0 &&& (2147483647 : Int32)) % (5 : Int32))), .val (.int (x1 &&& (255 : Int32)).toUInt32.toUInt16.toUInt32.toInt32), .val (.int (x2 &&& (255 : Int32)).toUInt32.toUInt16.toUInt32.toInt32), .val (.int (x3 &&& (255 : Int32)).toUInt32.toUInt16.toUInt32.toInt32)] [(.int (2 : Int32)), (.int ((x0 &&& (2147483647 : Int32)) % (5 : Int32)))])) _
        by_cases hc81_1125 : ((x0 &&& (2147483647 : Int32)) % (5 : Int32)) = (2 : Int32)
        · refine own_back (fun t k => XS.icmpNo X0.here hx rfl (hb hby dr_d81) rfl (Jvm.Free.XT.ii_ne_f hc81_1125) k) ?_
          show OwnGo p e below (s₁.setTop (mkF m 84 #[.val (.int x0), .val (.int x1), .val (.int x2), .val (.int x3), .val (.int ((x0 &&& (2147483647 : Int32)) % (5 : Int32))), .val (.int (x1 &&& (255 : Int32)).toUInt32.toUInt16.toUInt32.toInt32), .val (.int (x2 &&& (255 : Int32)).toUInt32.toUInt16.toUInt32.toInt32), .val (.int (x3 &&& (255 : Int32)).toUInt32.toUInt16.toUInt32.toInt32)] [])) _
          obtain ⟨T1126, h1126, X1126, e1126, E1126, A1126, D1126, -, st1126⟩ := newO X0 hx hZ hown (hw _ (List.mem_of_getElem? (i := 6) rfl)) (hw _ (List.mem_of_getElem? (i := 7) rfl)) (hw _ (List.mem_of_getElem? (i := 8) rfl)) e0 (g := (mkF m 84 #[.val (.int x0), .val (.int x1), .val (.int x2), .val (.int x3), .val (.int ((x0 &&& (2147483647 : Int32)) % (5 : Int32))), .val (.int (x1 &&& (255 : Int32)).toUInt32.toUInt16.toUInt32.toInt32), .val (.int (x2 &&& (255 : Int32)).toUInt32.toUInt16.toUInt32.toInt32), .val (.int (x3 &&& (255 : Int32)).toUInt32.toUInt16.toUInt32.toInt32)] [])) rfl (hb hby dr_d84) (Nat.le_of_ble_eq_true rfl) (Nat.le_of_ble_eq_true rfl)
          obtain ⟨b1126, g1126⟩ : ∃ z, z = h0.size := ⟨_, rfl⟩
          have ge1127 : n0 ≤ b1126 := Nat.le_trans Z0 (Nat.le_of_eq g1126.symm)
          have sz1128 : h0.size ≤ b1126 := Nat.le_trans KP0.1 (Nat.le_of_eq g1126.symm)
          rw [← g1126] at A1126 D1126 st1126
          have O1129 := OL.ext E1126
          have KP1130 := KP0.ext E1126
          have Zs1131 := Nat.le_trans Z0 E1126.1
          have CR1132 := CR0.trans (CHr.ext E1126 CR0.1)
          have hk1133 := Nat.le_trans hk0 E1126.1
          have F1134 : Fld Z h1126 b1126 "java/lang/String" "coder" "B" (.int (0 : Int32)) := D1126 (Or.inr (hw _ (List.mem_of_getElem? (i := 32) rfl))) (ty := .byte) (by decide)
          have F1135 : Fld Z h1126 b1126 "java/lang/String" "value" "[B" .null := D1126 (Or.inr (hw _ (List.mem_of_getElem? (i := 34) rfl))) (ty := (.array .byte)) (by decide)
          have sf1136 := Safe.ext E1126 CR0.1 (Safe.new (Nat.le_of_eq g1126.symm))
          refine own_back st1126 ?_
          show OwnGo p e below (T1126.setTop (mkF m 87 #[.val (.int x0), .val (.int x1), .val (.int x2), .val (.int x3), .val (.int ((x0 &&& (2147483647 : Int32)) % (5 : Int32))), .val (.int (x1 &&& (255 : Int32)).toUInt32.toUInt16.toUInt32.toInt32), .val (.int (x2 &&& (255 : Int32)).toUInt32.toUInt16.toUInt32.toInt32), .val (.int (x3 &&& (255 : Int32)).toUInt32.toUInt16.toUInt32.toInt32)] [(.ref b1126)])) _
          refine own_back (fun t k => XS.dup X1126.here hx rfl (hb hby dr_d87) rfl rfl k) ?_
          show OwnGo p e below (T1126.setTop (mkF m 88 #[.val (.int x0), .val (.int x1), .val (.int x2), .val (.int x3), .val (.int ((x0 &&& (2147483647 : Int32)) % (5 : Int32))), .val (.int (x1 &&& (255 : Int32)).toUInt32.toUInt16.toUInt32.toInt32), .val (.int (x2 &&& (255 : Int32)).toUInt32.toUInt16.toUInt32.toInt32), .val (.int (x3 &&& (255 : Int32)).toUInt32.toUInt16.toUInt32.toInt32)] [(.ref b1126), (.ref b1126)])) _
          refine own_back (fun t k => XS.iconst X1126.here hx rfl (hb hby dr_d88) k) ?_
          show OwnGo p e below (T1126.setTop (mkF m 89 #[.val (.int x0), .val (.int x1), .val (.int x2), .val (.int x3), .val (.int ((x0 &&& (2147483647 : Int32)) % (5 : Int32))), .val (.int (x1 &&& (255 : Int32)).toUInt32.toUInt16.toUInt32.toInt32), .val (.int (x2 &&& (255 : Int32)).toUInt32.toUInt16.toUInt32.toInt32), .val (.int (x3 &&& (255 : Int32)).toUInt32.toUInt16.toUInt32.toInt32)] [(.int (2 : Int32)), (.ref b1126), (.ref b1126)])) _
          obtain ⟨T1137, h1137, k1137, X1137, e1137, E1137, A1137, st1137⟩ := newP X1126 hx hZ (hw _ (List.mem_of_getElem? (i := 5) rfl)) e1126 (g := (mkF m 89 #[.val (.int x0), .val (.int x1), .val (.int x2), .val (.int x3), .val (.int ((x0 &&& (2147483647 : Int32)) % (5 : Int32))), .val (.int (x1 &&& (255 : Int32)).toUInt32.toUInt16.toUInt32.toInt32), .val (.int (x2 &&& (255 : Int32)).toUInt32.toUInt16.toUInt32.toInt32), .val (.int (x3 &&& (255 : Int32)).toUInt32.toUInt16.toUInt32.toInt32)] [(.int (2 : Int32)), (.ref b1126), (.ref b1126)])) rfl (hb hby dr_d89) rfl (by decide) (cap := 2) (by decide) (by decide) (Nat.le_of_ble_eq_true rfl) (Nat.le_of_ble_eq_true rfl)
          obtain ⟨b1137, g1137⟩ : ∃ z, z = h1126.size := ⟨_, rfl⟩
          have ge1138 : n0 ≤ b1137 := Nat.le_trans Zs1131 (Nat.le_of_eq g1137.symm)
          have sz1139 : h0.size ≤ b1137 := Nat.le_trans KP1130.1 (Nat.le_of_eq g1137.symm)
          rw [← g1137] at A1137 st1137
          have O1140 := O1129.ext E1137
          have KP1141 := KP1130.ext E1137
          have Zs1142 := Nat.le_trans Zs1131 E1137.1
          have CR1143 := CR1132.trans (CHr.ext E1137 CR1132.1)
          have hk1144 := Nat.le_trans hk1133 E1137.1
          have f1145 := A1126.ext E1137
          have f1146 := F1134.ext E1137
          have f1147 := F1135.ext E1137
          have f1148 := (Safe.ext E1137 CR1132.1 sf1136)
          have V1149 : Arv Z h1137 b1137 k1137 .char (2 : Int32) [(.int (0 : Int32)), (.int (0 : Int32))] (.int (0 : Int32)) := (Arv.new A1137 (by decide)).pad (pad_rep [] (.int (0 : Int32)) 2)
          have sf1150 := Safe.ext E1137 CR1132.1 (Safe.new (Nat.le_of_eq g1137.symm))
          refine own_back st1137 ?_
          show OwnGo p e below (T1137.setTop (mkF m 91 #[.val (.int x0), .val (.int x1), .val (.int x2), .val (.int x3), .val (.int ((x0 &&& (2147483647 : Int32)) % (5 : Int32))), .val (.int (x1 &&& (255 : Int32)).toUInt32.toUInt16.toUInt32.toInt32), .val (.int (x2 &&& (255 : Int32)).toUInt32.toUInt16.toUInt32.toInt32), .val (.int (x3 &&& (255 : Int32)).toUInt32.toUInt16.toUInt32.toInt32)] [(.ref b1137), (.ref b1126), (.ref b1126)])) _
          refine own_back (fun t k => XS.dup X1137.here hx rfl (hb hby dr_d91) rfl rfl k) ?_
          show OwnGo p e below (T1137.setTop (mkF m 92 #[.val (.int x0), .val (.int x1), .val (.int x2), .val (.int x3), .val (.int ((x0 &&& (2147483647 : Int32)) % (5 : Int32))), .val (.int (x1 &&& (255 : Int32)).toUInt32.toUInt16.toUInt32.toInt32), .val (.int (x2 &&& (255 : Int32)).toUInt32.toUInt16.toUInt32.toInt32), .val (.int (x3 &&& (255 : Int32)).toUInt32.toUInt16.toUInt32.toInt32)] [(.ref b1137), (.ref b1137), (.ref b1126), (.ref b1126)])) _
          refine own_back (fun t k => XS.iconst X1137.here hx rfl (hb hby dr_d92) k) ?_
          show OwnGo p e below (T1137.setTop (mkF m 93 #[.val (.int x0), .val (.int x1), .val (.int x2), .val (.int x3), .val (.int ((x0 &&& (2147483647 : Int32)) % (5 : Int32))), .val (.int (x1 &&& (255 : Int32)).toUInt32.toUInt16.toUInt32.toInt32), .val (.int (x2 &&& (255 : Int32)).toUInt32.toUInt16.toUInt32.toInt32), .val (.int (x3 &&& (255 : Int32)).toUInt32.toUInt16.toUInt32.toInt32)] [(.int (0 : Int32)), (.ref b1137), (.ref b1137), (.ref b1126), (.ref b1126)])) _
          refine own_back (fun t k => XS.iload X1137.here hx rfl (hb hby dr_d93) rfl k) ?_
          show OwnGo p e below (T1137.setTop (mkF m 95 #[.val (.int x0), .val (.int x1), .val (.int x2), .val (.int x3), .val (.int ((x0 &&& (2147483647 : Int32)) % (5 : Int32))), .val (.int (x1 &&& (255 : Int32)).toUInt32.toUInt16.toUInt32.toInt32), .val (.int (x2 &&& (255 : Int32)).toUInt32.toUInt16.toUInt32.toInt32), .val (.int (x3 &&& (255 : Int32)).toUInt32.toUInt16.toUInt32.toInt32)] [(.int (x1 &&& (255 : Int32)).toUInt32.toUInt16.toUInt32.toInt32), (.int (0 : Int32)), (.ref b1137), (.ref b1137), (.ref b1126), (.ref b1126)])) _
          obtain ⟨c1151, A1151, q1151, S1151, M1151, H1151, U1151⟩ := id V1149
          obtain ⟨T1152, h1152, X1152, e1152, W1152, st1152⟩ := stC X1137 hx hZ e1137 A1151 (j := (0 : Int32)) (inb_of S1151 ⟨by decide, by decide⟩) (g := (mkF m 95 #[.val (.int x0), .val (.int x1), .val (.int x2), .val (.int x3), .val (.int ((x0 &&& (2147483647 : Int32)) % (5 : Int32))), .val (.int (x1 &&& (255 : Int32)).toUInt32.toUInt16.toUInt32.toInt32), .val (.int (x2 &&& (255 : Int32)).toUInt32.toUInt16.toUInt32.toInt32), .val (.int (x3 &&& (255 : Int32)).toUInt32.toUInt16.toUInt32.toInt32)] [(.int (x1 &&& (255 : Int32)).toUInt32.toUInt16.toUInt32.toInt32), (.int (0 : Int32)), (.ref b1137), (.ref b1137), (.ref b1126), (.ref b1126)])) rfl rfl (hb hby dr_d95)
          have O1153 := O1140.wr W1152 ge1138
          have KP1154 := KP1141.wr W1152 (Or.inr sz1139)
          have Zs1155 := Nat.le_trans Zs1142 (Keep.of_wr W1152).1
          have CR1156 := CR1143.trans (CHr.wr W1152 sf1150 CR1143.1)
          have hk1157 := Nat.le_trans hk1144 (Keep.of_wr W1152).1
          have f1158 := f1145.wr W1152
          have f1159 := f1146.other W1152 (Or.inl (Nat.ne_of_lt (Nat.lt_of_lt_of_le A1126.lt (Nat.le_of_eq g1137.symm))))
          have f1160 := f1147.other W1152 (Or.inl (Nat.ne_of_lt (Nat.lt_of_lt_of_le A1126.lt (Nat.le_of_eq g1137.symm))))
          have f1161 := (Safe.wr W1152 sf1150 CR1143.1 f1148)
          have f1162 := (Safe.wr W1152 sf1150 CR1143.1 sf1150)
          have V1163 : Arv Z h1152 b1137 k1137 .char (2 : Int32) [(.int (nar .char (x1 &&& (255 : Int32)).toUInt32.toUInt16.toUInt32.toInt32)), (.int (0 : Int32))] (.int (0 : Int32)) := Arv.set A1151 q1151 S1151 M1151 H1151 U1151 (fits_nar_char _) W1152 0 rfl (Nat.le_of_ble_eq_true rfl)
          have N1164 := Fr.snoc X1152 N0 ge1138
          refine own_back st1152 ?_
          show OwnGo p e below (T1152.setTop (mkF m 96 #[.val (.int x0), .val (.int x1), .val (.int x2), .val (.int x3), .val (.int ((x0 &&& (2147483647 : Int32)) % (5 : Int32))), .val (.int (x1 &&& (255 : Int32)).toUInt32.toUInt16.toUInt32.toInt32), .val (.int (x2 &&& (255 : Int32)).toUInt32.toUInt16.toUInt32.toInt32), .val (.int (x3 &&& (255 : Int32)).toUInt32.toUInt16.toUInt32.toInt32)] [(.ref b1137), (.ref b1126), (.ref b1126)])) _
          refine own_back (fun t k => XS.dup X1152.here hx rfl (hb hby dr_d96) rfl rfl k) ?_
          show OwnGo p e below (T1152.setTop (mkF m 97 #[.val (.int x0), .val (.int x1), .val (.int x2), .val (.int x3), .val (.int ((x0 &&& (2147483647 : Int32)) % (5 : Int32))), .val (.int (x1 &&& (255 : Int32)).toUInt32.toUInt16.toUInt32.toInt32), .val (.int (x2 &&& (255 : Int32)).toUInt32.toUInt16.toUInt32.toInt32), .val (.int (x3 &&& (255 : Int32)).toUInt32.toUInt16.toUInt32.toInt32)] [(.ref b1137), (.ref b1137), (.ref b1126), (.ref b1126)])) _
          refine own_back (fun t k => XS.iconst X1152.here hx rfl (hb hby dr_d97) k) ?_
          show OwnGo p e below (T1152.setTop (mkF m 98 #[.val (.int x0), .val (.int x1), .val (.int x2), .val (.int x3), .val (.int ((x0 &&& (2147483647 : Int32)) % (5 : Int32))), .val (.int (x1 &&& (255 : Int32)).toUInt32.toUInt16.toUInt32.toInt32), .val (.int (x2 &&& (255 : Int32)).toUInt32.toUInt16.toUInt32.toInt32), .val (.int (x3 &&& (255 : Int32)).toUInt32.toUInt16.toUInt32.toInt32)] [(.int (1 : Int32)), (.ref b1137), (.ref b1137), (.ref b1126), (.ref b1126)])) _
          refine own_back (fun t k => XS.iload X1152.here hx rfl (hb hby dr_d98) rfl k) ?_
          show OwnGo p e below (T1152.setTop (mkF m 100 #[.val (.int x0), .val (.int x1), .val (.int x2), .val (.int x3), .val (.int ((x0 &&& (2147483647 : Int32)) % (5 : Int32))), .val (.int (x1 &&& (255 : Int32)).toUInt32.toUInt16.toUInt32.toInt32), .val (.int (x2 &&& (255 : Int32)).toUInt32.toUInt16.toUInt32.toInt32), .val (.int (x3 &&& (255 : Int32)).toUInt32.toUInt16.toUInt32.toInt32)] [(.int (x2 &&& (255 : Int32)).toUInt32.toUInt16.toUInt32.toInt32), (.int (1 : Int32)), (.ref b1137), (.ref b1137), (.ref b1126), (.ref b1126)])) _
          obtain ⟨c1165, A1165, q1165, S1165, M1165, H1165, U1165⟩ := id V1163
          obtain ⟨T1166, h1166, X1166, e1166, W1166, st1166⟩ := stC X1152 hx hZ e1152 A1165 (j := (1 : Int32)) (inb_of S1165 ⟨by decide, by decide⟩) (g := (mkF m 100 #[.val (.int x0), .val (.int x1), .val (.int x2), .val (.int x3), .val (.int ((x0 &&& (2147483647 : Int32)) % (5 : Int32))), .val (.int (x1 &&& (255 : Int32)).toUInt32.toUInt16.toUInt32.toInt32), .val (.int (x2 &&& (255 : Int32)).toUInt32.toUInt16.toUInt32.toInt32), .val (.int (x3 &&& (255 : Int32)).toUInt32.toUInt16.toUInt32.toInt32)] [(.int (x2 &&& (255 : Int32)).toUInt32.toUInt16.toUInt32.toInt32), (.int (1 : Int32)), (.ref b1137), (.ref b1137), (.ref b1126), (.ref b1126)])) rfl rfl (hb hby dr_d100)
          have O1167 := O1153.wr W1166 ge1138
          have KP1168 := KP1154.wr W1166 (Or.inr sz1139)
          have Zs1169 := Nat.le_trans Zs1155 (Keep.of_wr W1166).1
          have CR1170 := CR1156.trans (CHr.wr W1166 f1162 CR1156.1)
          have hk1171 := Nat.le_trans hk1157 (Keep.of_wr W1166).1
          have f1172 := f1158.wr W1166
          have f1173 := f1159.other W1166 (Or.inl (Nat.ne_of_lt (Nat.lt_of_lt_of_le A1126.lt (Nat.le_of_eq g1137.symm))))
          have f1174 := f1160.other W1166 (Or.inl (Nat.ne_of_lt (Nat.lt_of_lt_of_le A1126.lt (Nat.le_of_eq g1137.symm))))
          have f1175 := (Safe.wr W1166 f1162 CR1156.1 f1161)
          have f1176 := (Safe.wr W1166 f1162 CR1156.1 f1162)
          have V1177 : Arv Z h1166 b1137 k1137 .char (2 : Int32) [(.int (nar .char (x1 &&& (255 : Int32)).toUInt32.toUInt16.toUInt32.toInt32)), (.int (nar .char (x2 &&& (255 : Int32)).toUInt32.toUInt16.toUInt32.toInt32))] (.int (0 : Int32)) := Arv.set A1165 q1165 S1165 M1165 H1165 U1165 (fits_nar_char _) W1166 1 rfl (Nat.le_of_ble_eq_true rfl)
          have N1178 := Fr.snoc X1166 N1164 ge1138
          refine own_back st1166 ?_
          show OwnGo p e below (T1166.setTop (mkF m 101 #[.val (.int x0), .val (.int x1), .val (.int x2), .val (.int x3), .val (.int ((x0 &&& (2147483647 : Int32)) % (5 : Int32))), .val (.int (x1 &&& (255 : Int32)).toUInt32.toUInt16.toUInt32.toInt32), .val (.int (x2 &&& (255 : Int32)).toUInt32.toUInt16.toUInt32.toInt32), .val (.int (x3 &&& (255 : Int32)).toUInt32.toUInt16.toUInt32.toInt32)] [(.ref b1137), (.ref b1126), (.ref b1126)])) _
          obtain ⟨_, _, ⟨T1179, L1179, k1179, n1179⟩, -, X1179, ⟨Lc1179, hQ1179, l1179, y1179, z1179⟩, st1179⟩ := X1166.specialBack hx (y := (⟨"java/lang/String", "<init>", "([C)V"⟩ : MethodName)) rfl hown (mvT hZ (hw _ (List.mem_of_getElem? (i := 9) rfl))) (mvT hZ (hw _ (List.mem_of_getElem? (i := 10) rfl))) (mvT hZ (hw _ (List.mem_of_getElem? (i := 11) rfl))) (by decide) (StrChars.Road.backV (W := 1) hZ (own_wV hw) (kI := 4) (hw _ (List.mem_of_getElem? (i := 7) rfl)) (cs := ([(nar .char (x1 &&& (255 : Int32)).toUInt32.toUInt16.toUInt32.toInt32), (nar .char (x2 &&& (255 : Int32)).toUInt32.toUInt16.toUInt32.toInt32)] : List Int32)) (bs := ([(nar .char (x1 &&& (255 : Int32)).toUInt32.toUInt16.toUInt32.toInt32), (nar .char (x2 &&& (255 : Int32)).toUInt32.toUInt16.toUInt32.toInt32)] : List Int32).map (fun c => c.toInt8.toInt32)) (n := 2) ge1127 Zs1169 f1172 f1174 f1173 V1177 (SC.ext O1167.2) hcz rfl rfl (by decide) (by decide) (own_allS (own_c255 _) (own_allS (own_c255 _) own_all0)) rfl (by decide) (by decide)) (g := (mkF m 101 #[.val (.int x0), .val (.int x1), .val (.int x2), .val (.int x3), .val (.int ((x0 &&& (2147483647 : Int32)) % (5 : Int32))), .val (.int (x1 &&& (255 : Int32)).toUInt32.toUInt16.toUInt32.toInt32), .val (.int (x2 &&& (255 : Int32)).toUInt32.toUInt16.toUInt32.toInt32), .val (.int (x3 &&& (255 : Int32)).toUInt32.toUInt16.toUInt32.toInt32)] [(.ref b1137), (.ref b1126), (.ref b1126)])) rfl (by rw [hml]; rfl) (Steps.refl _) (a := b1126) (argsL := [(.ref b1137)]) (rest := [(.ref b1126)]) (lenOf dr_pd0 rfl) rfl (by show 2 * 0 + _ ≤ _; exact Nat.le_of_eq rfl) (hb hby dr_d101) (fun _ _ => ⟨rfl, e1166, Nat.le_of_ble_eq_true rfl, Nat.le_of_ble_eq_true rfl⟩)
          dsimp only [Pt.U, Pt.locs, Pt.cells, Pt.slots] at X1179 l1179 y1179 z1179 st1179 hQ1179
          subst l1179 y1179 z1179
          obtain ⟨rfl, N1179q, K1179, EX1179, C1179, t1179, kb1179, gt1179, zt1179, nt1179, FV1179, AV1179⟩ := hQ1179
          refine own_seq st1179 ?_
          have N1179 := Fr.app N1178 N1179q
          have O1180 := O1167.keep K1179 (allS ge1127 all0)
          have KP1181 := KP1168.trans K1179 (allS (Or.inr sz1128) all0)
          have Zs1182 := Nat.le_trans Zs1169 K1179.1
          have CR1183 := CR1170.trans (CHr.keep K1179 (sfS f1175 sf0) CR1170.1)
          have hk1184 := Nat.le_trans hk1171 K1179.1
          have f1185 := f1172.keep K1179
          have f1186 := (Safe.keep K1179 (sfS f1175 sf0) CR1170.1 f1175)
          have f1187 := (Safe.keep K1179 (sfS f1175 sf0) CR1170.1 f1176)
          have f1188 := V1177.keep K1179 (ninS (Ne.symm (Nat.ne_of_lt (Nat.lt_of_lt_of_le A1126.lt (Nat.le_of_eq g1137.symm)))) nin0)
          show OwnGo p e below (T1179.setTop (mkF m 104 #[.val (.int x0), .val (.int x1), .val (.int x2), .val (.int x3), .val (.int ((x0 &&& (2147483647 : Int32)) % (5 : Int32))), .val (.int (x1 &&& (255 : Int32)).toUInt32.toUInt16.toUInt32.toInt32), .val (.int (x2 &&& (255 : Int32)).toUInt32.toUInt16.toUInt32.toInt32), .val (.int (x3 &&& (255 : Int32)).toUInt32.toUInt16.toUInt32.toInt32)] [(.ref b1126)])) _
          refine own_retAW X1179 hx Bd.notSynchronized Bd.returns rfl rfl hS0 hk1184 hZ hEL (hh ▸ CR1183) (hb hby dr_d104) rfl (Nat.le_of_ble_eq_true rfl) (Nat.le_of_ble_eq_true rfl) ?_
          exact ⟨N1179, own_ext KP1181, Or.inr ⟨b1126, _, rfl, (⟨t1179, kb1179, EX1179, C1179, FV1179, AV1179, Nat.le_of_ble_eq_true rfl⟩ : OwnStr Z T1179.heap b1126 [((nar .char (x1 &&& (255 : Int32)).toUInt32.toUInt16.toUInt32.toInt32)).toInt8.toInt32, ((nar .char (x2 &&& (255 : Int32)).toUInt32.toUInt16.toUInt32.toInt32)).toInt8.toInt32])⟩⟩
        · refine own_back (fun t k => XS.icmpYes X0.here hx rfl (pc0 := 81) (pc' := 105) rfl (hb hby dr_d81) rfl (Jvm.Free.XT.ii_ne_t hc81_1125) (by decide) (by decide) k) ?_
          show OwnGo p e below (s₁.setTop (mkF m 105 #[.val (.int x0), .val (.int x1), .val (.int x2), .val (.int x3), .val (.int ((x0 &&& (2147483647 : Int32)) % (5 : Int32))), .val (.int (x1 &&& (255 : Int32)).toUInt32.toUInt16.toUInt32.toInt32), .val (.int (x2 &&& (255 : Int32)).toUInt32.toUInt16.toUInt32.toInt32), .val (.int (x3 &&& (255 : Int32)).toUInt32.toUInt16.toUInt32.toInt32)] [])) _
          obtain ⟨T1189, h1189, X1189, e1189, E1189, A1189, D1189, -, st1189⟩ := newO X0 hx hZ hown (hw _ (List.mem_of_getElem? (i := 6) rfl)) (hw _ (List.mem_of_getElem? (i := 7) rfl)) (hw _ (List.mem_of_getElem? (i := 8) rfl)) e0 (g := (mkF m 105 #[.val (.int x0), .val (.int x1), .val (.int x2), .val (.int x3), .val (.int ((x0 &&& (2147483647 : Int32)) % (5 : Int32))), .val (.int (x1 &&& (255 : Int32)).toUInt32.toUInt16.toUInt32.toInt32), .val (.int (x2 &&& (255 : Int32)).toUInt32.toUInt16.toUInt32.toInt32), .val (.int (x3 &&& (255 : Int32)).toUInt32.toUInt16.toUInt32.toInt32)] [])) rfl (hb hby dr_d105) (Nat.le_of_ble_eq_true rfl) (Nat.le_of_ble_eq_true rfl)
          obtain ⟨b1189, g1189⟩ : ∃ z, z = h0.size := ⟨_, rfl⟩
          have ge1190 : n0 ≤ b1189 := Nat.le_trans Z0 (Nat.le_of_eq g1189.symm)
          have sz1191 : h0.size ≤ b1189 := Nat.le_trans KP0.1 (Nat.le_of_eq g1189.symm)
          rw [← g1189] at A1189 D1189 st1189
          have O1192 := OL.ext E1189
          have KP1193 := KP0.ext E1189
          have Zs1194 := Nat.le_trans Z0 E1189.1
          have CR1195 := CR0.trans (CHr.ext E1189 CR0.1)
          have hk1196 := Nat.le_trans hk0 E1189.1
          have F1197 : Fld Z h1189 b1189 "java/lang/String" "coder" "B" (.int (0 : Int32)) := D1189 (Or.inr (hw _ (List.mem_of_getElem? (i := 32) rfl))) (ty := .byte) (by decide)
          have F1198 : Fld Z h1189 b1189 "java/lang/String" "value" "[B" .null := D1189 (Or.inr (hw _ (List.mem_of_getElem? (i := 34) rfl))) (ty := (.array .byte)) (by decide)
          have sf1199 := Safe.ext E1189 CR0.1 (Safe.new (Nat.le_of_eq g1189.symm))
          refine own_back st1189 ?_
          show OwnGo p e below (T1189.setTop (mkF m 108 #[.val (.int x0), .val (.int x1), .val (.int x2), .val (.int x3), .val (.int ((x0 &&& (2147483647 : Int32)) % (5 : Int32))), .val (.int (x1 &&& (255 : Int32)).toUInt32.toUInt16.toUInt32.toInt32), .val (.int (x2 &&& (255 : Int32)).toUInt32.toUInt16.toUInt32.toInt32), .val (.int (x3 &&& (255 : Int32)).toUInt32.toUInt16.toUInt32.toInt32)] [(.ref b1189)])) _
          refine own_back (fun t k => XS.dup X1189.here hx rfl (hb hby dr_d108) rfl rfl k) ?_
          show OwnGo p e below (T1189.setTop (mkF m 109 #[.val (.int x0), .val (.int x1), .val (.int x2), .val (.int x3), .val (.int ((x0 &&& (2147483647 : Int32)) % (5 : Int32))), .val (.int (x1 &&& (255 : Int32)).toUInt32.toUInt16.toUInt32.toInt32), .val (.int (x2 &&& (255 : Int32)).toUInt32.toUInt16.toUInt32.toInt32), .val (.int (x3 &&& (255 : Int32)).toUInt32.toUInt16.toUInt32.toInt32)] [(.ref b1189), (.ref b1189)])) _
          refine own_back (fun t k => XS.iconst X1189.here hx rfl (hb hby dr_d109) k) ?_
          show OwnGo p e below (T1189.setTop (mkF m 110 #[.val (.int x0), .val (.int x1), .val (.int x2), .val (.int x3), .val (.int ((x0 &&& (2147483647 : Int32)) % (5 : Int32))), .val (.int (x1 &&& (255 : Int32)).toUInt32.toUInt16.toUInt32.toInt32), .val (.int (x2 &&& (255 : Int32)).toUInt32.toUInt16.toUInt32.toInt32), .val (.int (x3 &&& (255 : Int32)).toUInt32.toUInt16.toUInt32.toInt32)] [(.int (3 : Int32)), (.ref b1189), (.ref b1189)])) _
          obtain ⟨T1200, h1200, k1200, X1200, e1200, E1200, A1200, st1200⟩ := newP X1189 hx hZ (hw _ (List.mem_of_getElem? (i := 5) rfl)) e1189 (g := (mkF m 110 #[.val (.int x0), .val (.int x1), .val (.int x2), .val (.int x3), .val (.int ((x0 &&& (2147483647 : Int32)) % (5 : Int32))), .val (.int (x1 &&& (255 : Int32)).toUInt32.toUInt16.toUInt32.toInt32), .val (.int (x2 &&& (255 : Int32)).toUInt32.toUInt16.toUInt32.toInt32), .val (.int (x3 &&& (255 : Int32)).toUInt32.toUInt16.toUInt32.toInt32)] [(.int (3 : Int32)), (.ref b1189), (.ref b1189)])) rfl (hb hby dr_d110) rfl (by decide) (cap := 3) (by decide) (by decide) (Nat.le_of_ble_eq_true rfl) (Nat.le_of_ble_eq_true rfl)
          obtain ⟨b1200, g1200⟩ : ∃ z, z = h1189.size := ⟨_, rfl⟩
          have ge1201 : n0 ≤ b1200 := Nat.le_trans Zs1194 (Nat.le_of_eq g1200.symm)
          have sz1202 : h0.size ≤ b1200 := Nat.le_trans KP1193.1 (Nat.le_of_eq g1200.symm)
          rw [← g1200] at A1200 st1200
          have O1203 := O1192.ext E1200
          have KP1204 := KP1193.ext E1200
          have Zs1205 := Nat.le_trans Zs1194 E1200.1
          have CR1206 := CR1195.trans (CHr.ext E1200 CR1195.1)
          have hk1207 := Nat.le_trans hk1196 E1200.1
          have f1208 := A1189.ext E1200
          have f1209 := F1197.ext E1200
          have f1210 := F1198.ext E1200
          have f1211 := (Safe.ext E1200 CR1195.1 sf1199)
          have V1212 : Arv Z h1200 b1200 k1200 .char (3 : Int32) [(.int (0 : Int32)), (.int (0 : Int32)), (.int (0 : Int32))] (.int (0 : Int32)) := (Arv.new A1200 (by decide)).pad (pad_rep [] (.int (0 : Int32)) 3)
          have sf1213 := Safe.ext E1200 CR1195.1 (Safe.new (Nat.le_of_eq g1200.symm))
          refine own_back st1200 ?_
          show OwnGo p e below (T1200.setTop (mkF m 112 #[.val (.int x0), .val (.int x1), .val (.int x2), .val (.int x3), .val (.int ((x0 &&& (2147483647 : Int32)) % (5 : Int32))), .val (.int (x1 &&& (255 : Int32)).toUInt32.toUInt16.toUInt32.toInt32), .val (.int (x2 &&& (255 : Int32)).toUInt32.toUInt16.toUInt32.toInt32), .val (.int (x3 &&& (255 : Int32)).toUInt32.toUInt16.toUInt32.toInt32)] [(.ref b1200), (.ref b1189), (.ref b1189)])) _
          refine own_back (fun t k => XS.dup X1200.here hx rfl (hb hby dr_d112) rfl rfl k) ?_
          show OwnGo p e below (T1200.setTop (mkF m 113 #[.val (.int x0), .val (.int x1), .val (.int x2), .val (.int x3), .val (.int ((x0 &&& (2147483647 : Int32)) % (5 : Int32))), .val (.int (x1 &&& (255 : Int32)).toUInt32.toUInt16.toUInt32.toInt32), .val (.int (x2 &&& (255 : Int32)).toUInt32.toUInt16.toUInt32.toInt32), .val (.int (x3 &&& (255 : Int32)).toUInt32.toUInt16.toUInt32.toInt32)] [(.ref b1200), (.ref b1200), (.ref b1189), (.ref b1189)])) _
          refine own_back (fun t k => XS.iconst X1200.here hx rfl (hb hby dr_d113) k) ?_
          show OwnGo p e below (T1200.setTop (mkF m 114 #[.val (.int x0), .val (.int x1), .val (.int x2), .val (.int x3), .val (.int ((x0 &&& (2147483647 : Int32)) % (5 : Int32))), .val (.int (x1 &&& (255 : Int32)).toUInt32.toUInt16.toUInt32.toInt32), .val (.int (x2 &&& (255 : Int32)).toUInt32.toUInt16.toUInt32.toInt32), .val (.int (x3 &&& (255 : Int32)).toUInt32.toUInt16.toUInt32.toInt32)] [(.int (0 : Int32)), (.ref b1200), (.ref b1200), (.ref b1189), (.ref b1189)])) _
          refine own_back (fun t k => XS.iload X1200.here hx rfl (hb hby dr_d114) rfl k) ?_
          show OwnGo p e below (T1200.setTop (mkF m 116 #[.val (.int x0), .val (.int x1), .val (.int x2), .val (.int x3), .val (.int ((x0 &&& (2147483647 : Int32)) % (5 : Int32))), .val (.int (x1 &&& (255 : Int32)).toUInt32.toUInt16.toUInt32.toInt32), .val (.int (x2 &&& (255 : Int32)).toUInt32.toUInt16.toUInt32.toInt32), .val (.int (x3 &&& (255 : Int32)).toUInt32.toUInt16.toUInt32.toInt32)] [(.int (x1 &&& (255 : Int32)).toUInt32.toUInt16.toUInt32.toInt32), (.int (0 : Int32)), (.ref b1200), (.ref b1200), (.ref b1189), (.ref b1189)])) _
          obtain ⟨c1214, A1214, q1214, S1214, M1214, H1214, U1214⟩ := id V1212
          obtain ⟨T1215, h1215, X1215, e1215, W1215, st1215⟩ := stC X1200 hx hZ e1200 A1214 (j := (0 : Int32)) (inb_of S1214 ⟨by decide, by decide⟩) (g := (mkF m 116 #[.val (.int x0), .val (.int x1), .val (.int x2), .val (.int x3), .val (.int ((x0 &&& (2147483647 : Int32)) % (5 : Int32))), .val (.int (x1 &&& (255 : Int32)).toUInt32.toUInt16.toUInt32.toInt32), .val (.int (x2 &&& (255 : Int32)).toUInt32.toUInt16.toUInt32.toInt32), .val (.int (x3 &&& (255 : Int32)).toUInt32.toUInt16.toUInt32.toInt32)] [(.int (x1 &&& (255 : Int32)).toUInt32.toUInt16.toUInt32.toInt32), (.int (0 : Int32)), (.ref b1200), (.ref b1200), (.ref b1189), (.ref b1189)])) rfl rfl (hb hby dr_d116)
          have O1216 := O1203.wr W1215 ge1201
          have KP1217 := KP1204.wr W1215 (Or.inr sz1202)
          have Zs1218 := Nat.le_trans Zs1205 (Keep.of_wr W1215).1
          have CR1219 := CR1206.trans (CHr.wr W1215 sf1213 CR1206.1)
          have hk1220 := Nat.le_trans hk1207 (Keep.of_wr W1215).1
          have f1221 := f1208.wr W1215
          have f1222 := f1209.other W1215 (Or.inl (Nat.ne_of_lt (Nat.lt_of_lt_of_le A1189.lt (Nat.le_of_eq g1200.symm))))
          have f1223 := f1210.other W1215 (Or.inl (Nat.ne_of_lt (Nat.lt_of_lt_of_le A1189.lt (Nat.le_of_eq g1200.symm))))
          have f1224 := (Safe.wr W1215 sf1213 CR1206.1 f1211)
          have f1225 := (Safe.wr W1215 sf1213 CR1206.1 sf1213)
          have V1226 : Arv Z h1215 b1200 k1200 .char (3 : Int32) [(.int (nar .char (x1 &&& (255 : Int32)).toUInt32.toUInt16.toUInt32.toInt32)), (.int (0 : Int32)), (.int (0 : Int32))] (.int (0 : Int32)) := Arv.set A1214 q1214 S1214 M1214 H1214 U1214 (fits_nar_char _) W1215 0 rfl (Nat.le_of_ble_eq_true rfl)
          have N1227 := Fr.snoc X1215 N0 ge1201
          refine own_back st1215 ?_
          show OwnGo p e below (T1215.setTop (mkF m 117 #[.val (.int x0), .val (.int x1), .val (.int x2), .val (.int x3), .val (.int ((x0 &&& (2147483647 : Int32)) % (5 : Int32))), .val (.int (x1 &&& (255 : Int32)).toUInt32.toUInt16.toUInt32.toInt32), .val (.int (x2 &&& (255 : Int32)).toUInt32.toUInt16.toUInt32.toInt32), .val (.int (x3 &&& (255 : Int32)).toUInt32.toUInt16.toUInt32.toInt32)] [(.ref b1200), (.ref b1189), (.ref b1189)])) _
          refine own_back (fun t k => XS.dup X1215.here hx rfl (hb hby dr_d117) rfl rfl k) ?_
          show OwnGo p e below (T1215.setTop (mkF m 118 #[.val (.int x0), .val (.int x1), .val (.int x2), .val (.int x3), .val (.int ((x0 &&& (2147483647 : Int32)) % (5 : Int32))), .val (.int (x1 &&& (255 : Int32)).toUInt32.toUInt16.toUInt32.toInt32), .val (.int (x2 &&& (255 : Int32)).toUInt32.toUInt16.toUInt32.toInt32), .val (.int (x3 &&& (255 : Int32)).toUInt32.toUInt16.toUInt32.toInt32)] [(.ref b1200), (.ref b1200), (.ref b1189), (.ref b1189)])) _
          refine own_back (fun t k => XS.iconst X1215.here hx rfl (hb hby dr_d118) k) ?_
          show OwnGo p e below (T1215.setTop (mkF m 119 #[.val (.int x0), .val (.int x1), .val (.int x2), .val (.int x3), .val (.int ((x0 &&& (2147483647 : Int32)) % (5 : Int32))), .val (.int (x1 &&& (255 : Int32)).toUInt32.toUInt16.toUInt32.toInt32), .val (.int (x2 &&& (255 : Int32)).toUInt32.toUInt16.toUInt32.toInt32), .val (.int (x3 &&& (255 : Int32)).toUInt32.toUInt16.toUInt32.toInt32)] [(.int (1 : Int32)), (.ref b1200), (.ref b1200), (.ref b1189), (.ref b1189)])) _
          refine own_back (fun t k => XS.iload X1215.here hx rfl (hb hby dr_d119) rfl k) ?_
          show OwnGo p e below (T1215.setTop (mkF m 121 #[.val (.int x0), .val (.int x1), .val (.int x2), .val (.int x3), .val (.int ((x0 &&& (2147483647 : Int32)) % (5 : Int32))), .val (.int (x1 &&& (255 : Int32)).toUInt32.toUInt16.toUInt32.toInt32), .val (.int (x2 &&& (255 : Int32)).toUInt32.toUInt16.toUInt32.toInt32), .val (.int (x3 &&& (255 : Int32)).toUInt32.toUInt16.toUInt32.toInt32)] [(.int (x2 &&& (255 : Int32)).toUInt32.toUInt16.toUInt32.toInt32), (.int (1 : Int32)), (.ref b1200), (.ref b1200), (.ref b1189), (.ref b1189)])) _
          obtain ⟨c1228, A1228, q1228, S1228, M1228, H1228, U1228⟩ := id V1226
          obtain ⟨T1229, h1229, X1229, e1229, W1229, st1229⟩ := stC X1215 hx hZ e1215 A1228 (j := (1 : Int32)) (inb_of S1228 ⟨by decide, by decide⟩) (g := (mkF m 121 #[.val (.int x0), .val (.int x1), .val (.int x2), .val (.int x3), .val (.int ((x0 &&& (2147483647 : Int32)) % (5 : Int32))), .val (.int (x1 &&& (255 : Int32)).toUInt32.toUInt16.toUInt32.toInt32), .val (.int (x2 &&& (255 : Int32)).toUInt32.toUInt16.toUInt32.toInt32), .val (.int (x3 &&& (255 : Int32)).toUInt32.toUInt16.toUInt32.toInt32)] [(.int (x2 &&& (255 : Int32)).toUInt32.toUInt16.toUInt32.toInt32), (.int (1 : Int32)), (.ref b1200), (.ref b1200), (.ref b1189), (.ref b1189)])) rfl rfl (hb hby dr_d121)
          have O1230 := O1216.wr W1229 ge1201
          have KP1231 := KP1217.wr W1229 (Or.inr sz1202)
          have Zs1232 := Nat.le_trans Zs1218 (Keep.of_wr W1229).1
          have CR1233 := CR1219.trans (CHr.wr W1229 f1225 CR1219.1)
          have hk1234 := Nat.le_trans hk1220 (Keep.of_wr W1229).1
          have f1235 := f1221.wr W1229
          have f1236 := f1222.other W1229 (Or.inl (Nat.ne_of_lt (Nat.lt_of_lt_of_le A1189.lt (Nat.le_of_eq g1200.symm))))
          have f1237 := f1223.other W1229 (Or.inl (Nat.ne_of_lt (Nat.lt_of_lt_of_le A1189.lt (Nat.le_of_eq g1200.symm))))
          have f1238 := (Safe.wr W1229 f1225 CR1219.1 f1224)
          have f1239 := (Safe.wr W1229 f1225 CR1219.1 f1225)
          have V1240 : Arv Z h1229 b1200 k1200 .char (3 : Int32) [(.int (nar .char (x1 &&& (255 : Int32)).toUInt32.toUInt16.toUInt32.toInt32)), (.int (nar .char (x2 &&& (255 : Int32)).toUInt32.toUInt16.toUInt32.toInt32)), (.int (0 : Int32))] (.int (0 : Int32)) := Arv.set A1228 q1228 S1228 M1228 H1228 U1228 (fits_nar_char _) W1229 1 rfl (Nat.le_of_ble_eq_true rfl)
          have N1241 := Fr.snoc X1229 N1227 ge1201
          refine own_back st1229 ?_
          show OwnGo p e below (T1229.setTop (mkF m 122 #[.val (.int x0), .val (.int x1), .val (.int x2), .val (.int x3), .val (.int ((x0 &&& (2147483647 : Int32)) % (5 : Int32))), .val (.int (x1 &&& (255 : Int32)).toUInt32.toUInt16.toUInt32.toInt32), .val (.int (x2 &&& (255 : Int32)).toUInt32.toUInt16.toUInt32.toInt32), .val (.int (x3 &&& (255 : Int32)).toUInt32.toUInt16.toUInt32.toInt32)] [(.ref b1200), (.ref b1189), (.ref b1189)])) _
          refine own_back (fun t k => XS.dup X1229.here hx rfl (hb hby dr_d122) rfl rfl k) ?_
          show OwnGo p e below (T1229.setTop (mkF m 123 #[.val (.int x0), .val (.int x1), .val (.int x2), .val (.int x3), .val (.int ((x0 &&& (2147483647 : Int32)) % (5 : Int32))), .val (.int (x1 &&& (255 : Int32)).toUInt32.toUInt16.toUInt32.toInt32), .val (.int (x2 &&& (255 : Int32)).toUInt32.toUInt16.toUInt32.toInt32), .val (.int (x3 &&& (255 : Int32)).toUInt32.toUInt16.toUInt32.toInt32)] [(.ref b1200), (.ref b1200), (.ref b1189), (.ref b1189)])) _
          refine own_back (fun t k => XS.iconst X1229.here hx rfl (hb hby dr_d123) k) ?_
          show OwnGo p e below (T1229.setTop (mkF m 124 #[.val (.int x0), .val (.int x1), .val (.int x2), .val (.int x3), .val (.int ((x0 &&& (2147483647 : Int32)) % (5 : Int32))), .val (.int (x1 &&& (255 : Int32)).toUInt32.toUInt16.toUInt32.toInt32), .val (.int (x2 &&& (255 : Int32)).toUInt32.toUInt16.toUInt32.toInt32), .val (.int (x3 &&& (255 : Int32)).toUInt32.toUInt16.toUInt32.toInt32)] [(.int (2 : Int32)), (.ref b1200), (.ref b1200), (.ref b1189), (.ref b1189)])) _
          refine own_back (fun t k => XS.iload X1229.here hx rfl (hb hby dr_d124) rfl k) ?_
          show OwnGo p e below (T1229.setTop (mkF m 126 #[.val (.int x0), .val (.int x1), .val (.int x2), .val (.int x3), .val (.int ((x0 &&& (2147483647 : Int32)) % (5 : Int32))), .val (.int (x1 &&& (255 : Int32)).toUInt32.toUInt16.toUInt32.toInt32), .val (.int (x2 &&& (255 : Int32)).toUInt32.toUInt16.toUInt32.toInt32), .val (.int (x3 &&& (255 : Int32)).toUInt32.toUInt16.toUInt32.toInt32)] [(.int (x3 &&& (255 : Int32)).toUInt32.toUInt16.toUInt32.toInt32), (.int (2 : Int32)), (.ref b1200), (.ref b1200), (.ref b1189), (.ref b1189)])) _
          obtain ⟨c1242, A1242, q1242, S1242, M1242, H1242, U1242⟩ := id V1240
          obtain ⟨T1243, h1243, X1243, e1243, W1243, st1243⟩ := stC X1229 hx hZ e1229 A1242 (j := (2 : Int32)) (inb_of S1242 ⟨by decide, by decide⟩) (g := (mkF m 126 #[.val (.int x0), .val (.int x1), .val (.int x2), .val (.int x3), .val (.int ((x0 &&& (2147483647 : Int32)) % (5 : Int32))), .val (.int (x1 &&& (255 : Int32)).toUInt32.toUInt16.toUInt32.toInt32), .val (.int (x2 &&& (255 : Int32)).toUInt32.toUInt16.toUInt32.toInt32), .val (.int (x3 &&& (255 : Int32)).toUInt32.toUInt16.toUInt32.toInt32)] [(.int (x3 &&& (255 : Int32)).toUInt32.toUInt16.toUInt32.toInt32), (.int (2 : Int32)), (.ref b1200), (.ref b1200), (.ref b1189), (.ref b1189)])) rfl rfl (hb hby dr_d126)
          have O1244 := O1230.wr W1243 ge1201
          have KP1245 := KP1231.wr W1243 (Or.inr sz1202)
          have Zs1246 := Nat.le_trans Zs1232 (Keep.of_wr W1243).1
          have CR1247 := CR1233.trans (CHr.wr W1243 f1239 CR1233.1)
          have hk1248 := Nat.le_trans hk1234 (Keep.of_wr W1243).1
          have f1249 := f1235.wr W1243
          have f1250 := f1236.other W1243 (Or.inl (Nat.ne_of_lt (Nat.lt_of_lt_of_le A1189.lt (Nat.le_of_eq g1200.symm))))
          have f1251 := f1237.other W1243 (Or.inl (Nat.ne_of_lt (Nat.lt_of_lt_of_le A1189.lt (Nat.le_of_eq g1200.symm))))
          have f1252 := (Safe.wr W1243 f1239 CR1233.1 f1238)
          have f1253 := (Safe.wr W1243 f1239 CR1233.1 f1239)
          have V1254 : Arv Z h1243 b1200 k1200 .char (3 : Int32) [(.int (nar .char (x1 &&& (255 : Int32)).toUInt32.toUInt16.toUInt32.toInt32)), (.int (nar .char (x2 &&& (255 : Int32)).toUInt32.toUInt16.toUInt32.toInt32)), (.int (nar .char (x3 &&& (255 : Int32)).toUInt32.toUInt16.toUInt32.toInt32))] (.int (0 : Int32)) := Arv.set A1242 q1242 S1242 M1242 H1242 U1242 (fits_nar_char _) W1243 2 rfl (Nat.le_of_ble_eq_true rfl)
          have N1255 := Fr.snoc X1243 N1241 ge1201
          refine own_back st1243 ?_
          show OwnGo p e below (T1243.setTop (mkF m 127 #[.val (.int x0), .val (.int x1), .val (.int x2), .val (.int x3), .val (.int ((x0 &&& (2147483647 : Int32)) % (5 : Int32))), .val (.int (x1 &&& (255 : Int32)).toUInt32.toUInt16.toUInt32.toInt32), .val (.int (x2 &&& (255 : Int32)).toUInt32.toUInt16.toUInt32.toInt32), .val (.int (x3 &&& (255 : Int32)).toUInt32.toUInt16.toUInt32.toInt32)] [(.ref b1200), (.ref b1189), (.ref b1189)])) _
          obtain ⟨_, _, ⟨T1256, L1256, k1256, n1256⟩, -, X1256, ⟨Lc1256, hQ1256, l1256, y1256, z1256⟩, st1256⟩ := X1243.specialBack hx (y := (⟨"java/lang/String", "<init>", "([C)V"⟩ : MethodName)) rfl hown (mvT hZ (hw _ (List.mem_of_getElem? (i := 9) rfl))) (mvT hZ (hw _ (List.mem_of_getElem? (i := 10) rfl))) (mvT hZ (hw _ (List.mem_of_getElem? (i := 11) rfl))) (by decide) (StrChars.Road.backV (W := 1) hZ (own_wV hw) (kI := 4) (hw _ (List.mem_of_getElem? (i := 7) rfl)) (cs := ([(nar .char (x1 &&& (255 : Int32)).toUInt32.toUInt16.toUInt32.toInt32), (nar .char (x2 &&& (255 : Int32)).toUInt32.toUInt16.toUInt32.toInt32), (nar .char (x3 &&& (255 : Int32)).toUInt32.toUInt16.toUInt32.toInt32)] : List Int32)) (bs := ([(nar .char (x1 &&& (255 : Int32)).toUInt32.toUInt16.toUInt32.toInt32), (nar .char (x2 &&& (255 : Int32)).toUInt32.toUInt16.toUInt32.toInt32), (nar .char (x3 &&& (255 : Int32)).toUInt32.toUInt16.toUInt32.toInt32)] : List Int32).map (fun c => c.toInt8.toInt32)) (n := 3) ge1190 Zs1246 f1249 f1251 f1250 V1254 (SC.ext O1244.2) hcz rfl rfl (by decide) (by decide) (own_allS (own_c255 _) (own_allS (own_c255 _) (own_allS (own_c255 _) own_all0))) rfl (by decide) (by decide)) (g := (mkF m 127 #[.val (.int x0), .val (.int x1), .val (.int x2), .val (.int x3), .val (.int ((x0 &&& (2147483647 : Int32)) % (5 : Int32))), .val (.int (x1 &&& (255 : Int32)).toUInt32.toUInt16.toUInt32.toInt32), .val (.int (x2 &&& (255 : Int32)).toUInt32.toUInt16.toUInt32.toInt32), .val (.int (x3 &&& (255 : Int32)).toUInt32.toUInt16.toUInt32.toInt32)] [(.ref b1200), (.ref b1189), (.ref b1189)])) rfl (by rw [hml]; rfl) (Steps.refl _) (a := b1189) (argsL := [(.ref b1200)]) (rest := [(.ref b1189)]) (lenOf dr_pd0 rfl) rfl (by show 2 * 0 + _ ≤ _; exact Nat.le_of_eq rfl) (hb hby dr_d127) (fun _ _ => ⟨rfl, e1243, Nat.le_of_ble_eq_true rfl, Nat.le_of_ble_eq_true rfl⟩)
          dsimp only [Pt.U, Pt.locs, Pt.cells, Pt.slots] at X1256 l1256 y1256 z1256 st1256 hQ1256
          subst l1256 y1256 z1256
          obtain ⟨rfl, N1256q, K1256, EX1256, C1256, t1256, kb1256, gt1256, zt1256, nt1256, FV1256, AV1256⟩ := hQ1256
          refine own_seq st1256 ?_
          have N1256 := Fr.app N1255 N1256q
          have O1257 := O1244.keep K1256 (allS ge1190 all0)
          have KP1258 := KP1245.trans K1256 (allS (Or.inr sz1191) all0)
          have Zs1259 := Nat.le_trans Zs1246 K1256.1
          have CR1260 := CR1247.trans (CHr.keep K1256 (sfS f1252 sf0) CR1247.1)
          have hk1261 := Nat.le_trans hk1248 K1256.1
          have f1262 := f1249.keep K1256
          have f1263 := (Safe.keep K1256 (sfS f1252 sf0) CR1247.1 f1252)
          have f1264 := (Safe.keep K1256 (sfS f1252 sf0) CR1247.1 f1253)
          have f1265 := V1254.keep K1256 (ninS (Ne.symm (Nat.ne_of_lt (Nat.lt_of_lt_of_le A1189.lt (Nat.le_of_eq g1200.symm)))) nin0)
          show OwnGo p e below (T1256.setTop (mkF m 130 #[.val (.int x0), .val (.int x1), .val (.int x2), .val (.int x3), .val (.int ((x0 &&& (2147483647 : Int32)) % (5 : Int32))), .val (.int (x1 &&& (255 : Int32)).toUInt32.toUInt16.toUInt32.toInt32), .val (.int (x2 &&& (255 : Int32)).toUInt32.toUInt16.toUInt32.toInt32), .val (.int (x3 &&& (255 : Int32)).toUInt32.toUInt16.toUInt32.toInt32)] [(.ref b1189)])) _
          refine own_retAW X1256 hx Bd.notSynchronized Bd.returns rfl rfl hS0 hk1261 hZ hEL (hh ▸ CR1260) (hb hby dr_d130) rfl (Nat.le_of_ble_eq_true rfl) (Nat.le_of_ble_eq_true rfl) ?_
          exact ⟨N1256, own_ext KP1258, Or.inr ⟨b1189, _, rfl, (⟨t1256, kb1256, EX1256, C1256, FV1256, AV1256, Nat.le_of_ble_eq_true rfl⟩ : OwnStr Z T1256.heap b1189 [((nar .char (x1 &&& (255 : Int32)).toUInt32.toUInt16.toUInt32.toInt32)).toInt8.toInt32, ((nar .char (x2 &&& (255 : Int32)).toUInt32.toUInt16.toUInt32.toInt32)).toInt8.toInt32, ((nar .char (x3 &&& (255 : Int32)).toUInt32.toUInt16.toUInt32.toInt32)).toInt8.toInt32])⟩⟩
theorem ex_d0 : decode method_4_code 0 = .ok (.aload_n 0, 1) := by decide +kernel
theorem ex_d1 : decode method_4_code 1 = .ok (.ifnonnull 5, 3) := by decide +kernel
theorem ex_d6 : decode method_4_code 6 = .ok (.aload_n 0, 1) := by decide +kernel
theorem ex_d7 : decode method_4_code 7 = .ok (.ldc 13, 2) := by decide +kernel
theorem ex_d9 : decode method_4_code 9 = .ok (.invokevirtual 15, 3) := by decide +kernel
theorem ex_d12 : decode method_4_code 12 = .ok (.ifCond .eq 7, 3) := by decide +kernel
theorem ex_d15 : decode method_4_code 15 = .ok (.getstatic 19, 3) := by decide +kernel
theorem ex_d18 : decode method_4_code 18 = .ok (.areturn, 1) := by decide +kernel
theorem ex_d19 : decode method_4_code 19 = .ok (.aload_n 0, 1) := by decide +kernel
theorem ex_d20 : decode method_4_code 20 = .ok (.ldc 25, 2) := by decide +kernel
theorem ex_d22 : decode method_4_code 22 = .ok (.invokevirtual 15, 3) := by decide +kernel
theorem ex_d25 : decode method_4_code 25 = .ok (.ifCond .eq 7, 3) := by decide +kernel
theorem ex_d28 : decode method_4_code 28 = .ok (.getstatic 27, 3) := by decide +kernel
theorem ex_d31 : decode method_4_code 31 = .ok (.areturn, 1) := by decide +kernel
theorem ex_d32 : decode method_4_code 32 = .ok (.aload_n 0, 1) := by decide +kernel
theorem ex_d33 : decode method_4_code 33 = .ok (.ldc 30, 2) := by decide +kernel
theorem ex_d35 : decode method_4_code 35 = .ok (.invokevirtual 15, 3) := by decide +kernel
theorem ex_d38 : decode method_4_code 38 = .ok (.ifCond .eq 7, 3) := by decide +kernel
theorem ex_d41 : decode method_4_code 41 = .ok (.getstatic 32, 3) := by decide +kernel
theorem ex_d44 : decode method_4_code 44 = .ok (.areturn, 1) := by decide +kernel
theorem ex_d45 : decode method_4_code 45 = .ok (.aconst_null, 1) := by decide +kernel
theorem ex_d46 : decode method_4_code 46 = .ok (.areturn, 1) := by decide +kernel
theorem ex_pn : plainName "com/example/indexwright/indexwright/marketdata/KindOfPinLaw" = true := by first | (simp [plainName, overriddenIn]; done) | decide +kernel
theorem ex_pd0 : parseMethodDescriptor "(Ljava/lang/Object;)Z" = some ⟨[(.object "java/lang/Object")], some .boolean⟩ := by decide +kernel
theorem ex_ef (m : MethodId) (x0 : Addr) : entryFrame m #[(.ref x0)] 1 = mkF m 0 #[.val (.ref x0)] [] := by first | (simp [entryFrame, mkF, argsToLocals, Value.category]; done) | rfl
set_option maxRecDepth 65536 in
set_option maxHeartbeats 40000000 in
theorem rm_ex (l : Launch) (Z : State) (a0 : Array Value) (hw : ∀ d ∈ tables_1, d.before a0 Z = true) (ws : List Jvm.Cond) (a1 : Addr) (bs : List Int32) (wS : Addr) (wD : Addr) (wR : Addr) (cz : Int32) (h0 : Heap) (n0 : Nat) (Z0 : n0 ≤ h0.size) (OL : Old Z n0 h0) (B1 : OwnStr Z h0 a1 bs) (SS : Sta Z Z.heap "com/example/indexwright/indexwright/marketdata/ShareAdjustment$Kind" "SPLIT" "Lcom/example/indexwright/indexwright/marketdata/ShareAdjustment$Kind;" (.ref wS)) (SD : Sta Z Z.heap "com/example/indexwright/indexwright/marketdata/ShareAdjustment$Kind" "STOCK_DISTRIBUTION" "Lcom/example/indexwright/indexwright/marketdata/ShareAdjustment$Kind;" (.ref wD)) (SR : Sta Z Z.heap "com/example/indexwright/indexwright/marketdata/ShareAdjustment$Kind" "RIGHTS_ISSUE" "Lcom/example/indexwright/indexwright/marketdata/ShareAdjustment$Kind;" (.ref wR)) (SC : Sta Z Z.heap "java/lang/String" "COMPACT_STRINGS" "Z" (.int cz)) (hcz : ¬ cz = 0) :
    MetFree l (⟨"com/example/indexwright/indexwright/marketdata/KindOfPinLaw", "expected", "(Ljava/lang/String;)Lcom/example/indexwright/indexwright/marketdata/ShareAdjustment$Kind;"⟩ : MethodName) (head1 (Jvm.Cond.code (⟨"com/example/indexwright/indexwright/marketdata/KindOfPinLaw", "expected", "(Ljava/lang/String;)Lcom/example/indexwright/indexwright/marketdata/ShareAdjustment$Kind;"⟩ : MethodName) method_4_code 1 (some (.object "com/example/indexwright/indexwright/marketdata/ShareAdjustment$Kind")) :: ws) ({ frames := 2, cells := 6, slots := 152, locals := 50 } : Room)) (fun a U => a = #[(.ref a1)] ∧ Z.Warmed39 U.vm ∧ U.heap = h0 ∧ CHv Z own_EL U.vm h0 ∧ ∀ x ∈ ([] : List Addr), Safe Z own_EL U.vm h0 x) (fun _ _ _ _ _ => True) (fun _ U o U' => OwnEndW Z own_EL U (fun v h L => v = some (if bs = ([115, 112, 108, 105, 116] : List Int32) then .ref wS else if bs = ([115, 116, 111, 99, 107, 45, 100, 105, 115, 116, 114, 105, 98, 117, 116, 105, 111, 110] : List Int32) then .ref wD else if bs = ([114, 105, 103, 104, 116, 115, 45, 105, 115, 115, 117, 101] : List Int32) then .ref wR else .null) ∧ Fr n0 L ∧ Ext h0 h) ({ frames := 2, cells := 6, slots := 152, locals := 50 } : Room).cells ({ frames := 2, cells := 6, slots := 152, locals := 50 } : Room).slots o U') := by
  refine MetFree.of_bodySF (plainFor_of_name ex_pn) hisR ?_
  intro p e s m args below meth c s₁ Bd hml0 hP hK
  obtain ⟨rfl, hZ, hh, hCH, hSL⟩ := hP
  have hx := Bd.exec
  have hby := Bd.bytes
  have hml : c.maxLocals = 1 := hml0
  have hown : s.vm.findClass "com/example/indexwright/indexwright/marketdata/KindOfPinLaw" = some m.cls := findClass_of_methodNamed Bd.named
  have hnm := (name_of_methodNamed Bd.named Bd.method).1
  have X0 : Stand p l e ({ frames := 2, cells := 6, slots := 152, locals := 50 } : Room) (s.setVm s.vm) m #[(.ref a1)] below meth c s₁ [] 0 0 := Stand.of_body Bd
  have e0 : s₁.heap = h0 := by rw [← hh, Bd.state]; rfl
  have N0 := Fr.nil n0
  have KP0 := Keep.refl h0 []
  have hown : (s.setVm s.vm).vm.findClass "com/example/indexwright/indexwright/marketdata/KindOfPinLaw" = some m.cls := hown
  have hZ : Z.Warmed39 (s.setVm s.vm).vm := hZ
  have hS0 : s.Since s.vm 0 := (State.WarmedH.refl s).since 0
  have hk0 : 0 ≤ h0.size := Nat.zero_le _
  have CR0 : CHr Z own_EL s.vm h0 s.vm h0 := CHr.refl hCH
  have hEL := own_EW hw
  refine own_go (Q := (OwnEndW Z own_EL s (fun v h L => v = some (if bs = ([115, 112, 108, 105, 116] : List Int32) then .ref wS else if bs = ([115, 116, 111, 99, 107, 45, 100, 105, 115, 116, 114, 105, 98, 117, 116, 105, 111, 110] : List Int32) then .ref wD else if bs = ([114, 105, 103, 104, 116, 115, 45, 105, 115, 115, 117, 101] : List Int32) then .ref wR else .null) ∧ Fr n0 L ∧ Ext h0 h) ({ frames := 2, cells := 6, slots := 152, locals := 50 } : Room).cells ({ frames := 2, cells := 6, slots := 152, locals := 50 } : Room).slots)) ?_
  refine own_back (fun t k => castTop (ex_ef m a1) k) ?_
  show OwnGo p e below (s₁.setTop (mkF m 0 #[.val (.ref a1)] [])) _
  refine own_back (fun t k => XS.aloadN X0.here hx rfl (hb hby ex_d0) rfl rfl k) ?_
  show OwnGo p e below (s₁.setTop (mkF m 1 #[.val (.ref a1)] [(.ref a1)])) _
  refine own_back (fun t k => XS.ifnonnullYes X0.here hx rfl (pc0 := 1) (pc' := 6) rfl (hb hby ex_d1) rfl (by decide) (by decide) k) ?_
  show OwnGo p e below (s₁.setTop (mkF m 6 #[.val (.ref a1)] [])) _
  refine own_back (fun t k => XS.aloadN X0.here hx rfl (hb hby ex_d6) rfl rfl k) ?_
  show OwnGo p e below (s₁.setTop (mkF m 7 #[.val (.ref a1)] [(.ref a1)])) _
  obtain ⟨a1266, T1266, h1266, k11266, t1266, kb1266, X1266, e1266, E1266, hS1266, hk1266, hZ1266, hown1266, EX1266, FC1266, FV1266, AV1266, la1266, lb1266, CRl1266, hLit1266, sx1266, st1266⟩ := ldcCH X0 hx hZ hown (hw _ (List.mem_of_getElem? (i := 72) rfl)) (own_wS hw) e0 hS0 hk0 hEL (List.mem_of_getElem? (i := 0) rfl) CR0.1 (vs := [(.int 115), (.int 112), (.int 108), (.int 105), (.int 116)]) (z := 5) ⟨by decide, by decide⟩ (by decide) (by decide) (g := (mkF m 7 #[.val (.ref a1)] [(.ref a1)])) rfl (hb hby ex_d7) (n := 20) (Nat.le_of_ble_eq_true rfl) (by decide) (Nat.le_of_ble_eq_true rfl) (Nat.le_of_ble_eq_true rfl)
  have O1267 := OL.ext E1266
  have KP1268 := KP0.ext E1266
  have Zs1269 := Nat.le_trans Z0 E1266.1
  have CR1270 := CR0.trans CRl1266
  have f1271 := B1.ext E1266
  refine own_back st1266 ?_
  show OwnGo p e below (T1266.setTop (mkF m 9 #[.val (.ref a1)] [(.ref a1266), (.ref a1)])) _
  by_cases hS : bs = ([115, 112, 108, 105, 116] : List Int32)
  · obtain ⟨cq1272, kq1272, q1272a, q1272b, q1272c⟩ := isOf hZ1266 e1266 f1271.exa
    obtain ⟨_, _, ⟨T1272, L1272, k1272, n1272⟩, -, X1272, ⟨Lc1272, hQ1272, l1272, y1272, z1272⟩, st1272⟩ := X1266.virtualBack hx (y := (⟨"java/lang/String", "equals", "(Ljava/lang/Object;)Z"⟩ : MethodName)) (z := (⟨"java/lang/String", "equals", "(Ljava/lang/Object;)Z"⟩ : MethodName)) hown1266 (mvT hZ1266 (hw _ (List.mem_of_getElem? (i := 75) rfl))) (mvT hZ1266 (hw _ (List.mem_of_getElem? (i := 60) rfl))) (notFace_of_selects (args := #[]) (mvT hZ1266 (hw _ (List.mem_of_getElem? (i := 62) rfl)))) (mvT hZ1266 (hw _ (List.mem_of_getElem? (i := 62) rfl))) (mvT hZ1266 (hw _ (List.mem_of_getElem? (i := 61) rfl))) (by decide) (own_backN (W := 0) (rm_seq l Z a0 hw [] a1 a1266 bs [115, 112, 108, 105, 116] cz h1266 n0 Zs1269 O1267 f1271 (⟨_, _, EX1266, FC1266, FV1266, AV1266, Nat.le_of_ble_eq_true rfl⟩ : OwnStr Z h1266 a1266 [115, 112, 108, 105, 116]) SC hcz) hZ1266 (hw _ (List.mem_of_getElem? (i := 63) rfl)) (hw _ (List.mem_of_getElem? (i := 8) rfl)) (by decide) (by decide)) q1272a q1272c (g := (mkF m 9 #[.val (.ref a1)] [(.ref a1266), (.ref a1)])) rfl (by rw [hml]; rfl) (Steps.refl _) (argsL := [(.ref a1266)]) (rest := []) (lenOf ex_pd0 rfl) rfl (by show 2 * 0 + _ ≤ _; exact Nat.le_of_eq rfl) (hb hby ex_d9) (fun _ _ => ⟨rfl, e1266, Nat.le_of_ble_eq_true rfl, Nat.le_of_ble_eq_true rfl⟩)
    dsimp only [Pt.U, Pt.locs, Pt.cells, Pt.slots] at X1272 l1272 y1272 z1272 st1272 hQ1272
    subst l1272 y1272 z1272
    rw [if_pos hS] at hQ1272
    obtain ⟨rfl, N1272q, hh1272⟩ := hQ1272
    refine own_seq st1272 ?_
    have N1272 := Fr.app N0 N1272q
    show OwnGo p e below (T1272.setTop (mkF m 12 #[.val (.ref a1)] [(.int (1 : Int32))])) _
    refine own_back (fun t k => XS.ifNo X1272.here hx rfl (hb hby ex_d12) rfl (Jvm.Free.XT.i0_eq_f (by decide)) k) ?_
    show OwnGo p e below (T1272.setTop (mkF m 15 #[.val (.ref a1)] [])) _
    obtain ⟨T1273, X1273, e1273, st1273⟩ := getS2 X1272 hx hZ1266 hown1266 (host := "") (Or.inl (hw _ (List.mem_of_getElem? (i := 82) rfl))) Via.refl hh1272 (SS.ext O1267.2) (g := (mkF m 15 #[.val (.ref a1)] [])) rfl (hb hby ex_d15)
    refine own_back st1273 ?_
    show OwnGo p e below (T1273.setTop (mkF m 18 #[.val (.ref a1)] [(.ref wS)])) _
    refine own_retAW X1273 hx Bd.notSynchronized Bd.returns rfl rfl hS1266 hk1266 hZ1266 hEL (hh ▸ CR1270) (hb hby ex_d18) e1273 (Nat.le_of_ble_eq_true rfl) (Nat.le_of_ble_eq_true rfl) ?_
    exact ⟨by rw [if_pos hS], N1272, own_ext KP1268⟩
  · obtain ⟨cq1274, kq1274, q1274a, q1274b, q1274c⟩ := isOf hZ1266 e1266 f1271.exa
    obtain ⟨_, _, ⟨T1274, L1274, k1274, n1274⟩, -, X1274, ⟨Lc1274, hQ1274, l1274, y1274, z1274⟩, st1274⟩ := X1266.virtualBack hx (y := (⟨"java/lang/String", "equals", "(Ljava/lang/Object;)Z"⟩ : MethodName)) (z := (⟨"java/lang/String", "equals", "(Ljava/lang/Object;)Z"⟩ : MethodName)) hown1266 (mvT hZ1266 (hw _ (List.mem_of_getElem? (i := 75) rfl))) (mvT hZ1266 (hw _ (List.mem_of_getElem? (i := 60) rfl))) (notFace_of_selects (args := #[]) (mvT hZ1266 (hw _ (List.mem_of_getElem? (i := 62) rfl)))) (mvT hZ1266 (hw _ (List.mem_of_getElem? (i := 62) rfl))) (mvT hZ1266 (hw _ (List.mem_of_getElem? (i := 61) rfl))) (by decide) (own_backN (W := 0) (rm_seq l Z a0 hw [] a1 a1266 bs [115, 112, 108, 105, 116] cz h1266 n0 Zs1269 O1267 f1271 (⟨_, _, EX1266, FC1266, FV1266, AV1266, Nat.le_of_ble_eq_true rfl⟩ : OwnStr Z h1266 a1266 [115, 112, 108, 105, 116]) SC hcz) hZ1266 (hw _ (List.mem_of_getElem? (i := 63) rfl)) (hw _ (List.mem_of_getElem? (i := 8) rfl)) (by decide) (by decide)) q1274a q1274c (g := (mkF m 9 #[.val (.ref a1)] [(.ref a1266), (.ref a1)])) rfl (by rw [hml]; rfl) (Steps.refl _) (argsL := [(.ref a1266)]) (rest := []) (lenOf ex_pd0 rfl) rfl (by show 2 * 0 + _ ≤ _; exact Nat.le_of_eq rfl) (hb hby ex_d9) (fun _ _ => ⟨rfl, e1266, Nat.le_of_ble_eq_true rfl, Nat.le_of_ble_eq_true rfl⟩)
    dsimp only [Pt.U, Pt.locs, Pt.cells, Pt.slots] at X1274 l1274 y1274 z1274 st1274 hQ1274
    subst l1274 y1274 z1274
    rw [if_neg hS] at hQ1274
    obtain ⟨rfl, N1274q, hh1274⟩ := hQ1274
    refine own_seq st1274 ?_
    have N1274 := Fr.app N0 N1274q
    show OwnGo p e below (T1274.setTop (mkF m 12 #[.val (.ref a1)] [(.int (0 : Int32))])) _
    refine own_back (fun t k => XS.ifYes X1274.here hx rfl (pc0 := 12) (pc' := 19) rfl (hb hby ex_d12) rfl (Jvm.Free.XT.i0_eq_t (by decide)) (by decide) (by decide) k) ?_
    show OwnGo p e below (T1274.setTop (mkF m 19 #[.val (.ref a1)] [])) _
    refine own_back (fun t k => XS.aloadN X1274.here hx rfl (hb hby ex_d19) rfl rfl k) ?_
    show OwnGo p e below (T1274.setTop (mkF m 20 #[.val (.ref a1)] [(.ref a1)])) _
    obtain ⟨a1275, T1275, h1275, k11275, t1275, kb1275, X1275, e1275, E1275, hS1275, hk1275, hZ1275, hown1275, EX1275, FC1275, FV1275, AV1275, la1275, lb1275, CRl1275, hLit1275, sx1275, st1275⟩ := ldcCH X1274 hx hZ1266 hown1266 (hw _ (List.mem_of_getElem? (i := 76) rfl)) (own_wS hw) hh1274 hS1266 hk1266 hEL (List.mem_of_getElem? (i := 1) rfl) CR1270.1 (vs := [(.int 115), (.int 116), (.int 111), (.int 99), (.int 107), (.int 45), (.int 100), (.int 105), (.int 115), (.int 116), (.int 114), (.int 105), (.int 98), (.int 117), (.int 116), (.int 105), (.int 111), (.int 110)]) (z := 18) ⟨by decide, by decide⟩ (by decide) (by decide) (g := (mkF m 20 #[.val (.ref a1)] [(.ref a1)])) rfl (hb hby ex_d20) (n := 72) (Nat.le_of_ble_eq_true rfl) (by decide) (Nat.le_of_ble_eq_true rfl) (Nat.le_of_ble_eq_true rfl)
    have O1276 := O1267.ext E1275
    have KP1277 := KP1268.ext E1275
    have Zs1278 := Nat.le_trans Zs1269 E1275.1
    have CR1279 := CR1270.trans CRl1275
    have f1280 := f1271.ext E1275
    have f1281 := EX1266.ext E1275
    have f1282 := FC1266.ext E1275
    have f1283 := FV1266.ext E1275
    have f1284 := AV1266.ext E1275
    refine own_back st1275 ?_
    show OwnGo p e below (T1275.setTop (mkF m 22 #[.val (.ref a1)] [(.ref a1275), (.ref a1)])) _
    by_cases hD : bs = ([115, 116, 111, 99, 107, 45, 100, 105, 115, 116, 114, 105, 98, 117, 116, 105, 111, 110] : List Int32)
    · obtain ⟨cq1285, kq1285, q1285a, q1285b, q1285c⟩ := isOf hZ1275 e1275 f1280.exa
      obtain ⟨_, _, ⟨T1285, L1285, k1285, n1285⟩, -, X1285, ⟨Lc1285, hQ1285, l1285, y1285, z1285⟩, st1285⟩ := X1275.virtualBack hx (y := (⟨"java/lang/String", "equals", "(Ljava/lang/Object;)Z"⟩ : MethodName)) (z := (⟨"java/lang/String", "equals", "(Ljava/lang/Object;)Z"⟩ : MethodName)) hown1275 (mvT hZ1275 (hw _ (List.mem_of_getElem? (i := 75) rfl))) (mvT hZ1275 (hw _ (List.mem_of_getElem? (i := 60) rfl))) (notFace_of_selects (args := #[]) (mvT hZ1275 (hw _ (List.mem_of_getElem? (i := 62) rfl)))) (mvT hZ1275 (hw _ (List.mem_of_getElem? (i := 62) rfl))) (mvT hZ1275 (hw _ (List.mem_of_getElem? (i := 61) rfl))) (by decide) (own_backN (W := 0) (rm_seq l Z a0 hw [] a1 a1275 bs [115, 116, 111, 99, 107, 45, 100, 105, 115, 116, 114, 105, 98, 117, 116, 105, 111, 110] cz h1275 n0 Zs1278 O1276 f1280 (⟨_, _, EX1275, FC1275, FV1275, AV1275, Nat.le_of_ble_eq_true rfl⟩ : OwnStr Z h1275 a1275 [115, 116, 111, 99, 107, 45, 100, 105, 115, 116, 114, 105, 98, 117, 116, 105, 111, 110]) SC hcz) hZ1275 (hw _ (List.mem_of_getElem? (i := 63) rfl)) (hw _ (List.mem_of_getElem? (i := 8) rfl)) (by decide) (by decide)) q1285a q1285c (g := (mkF m 22 #[.val (.ref a1)] [(.ref a1275), (.ref a1)])) rfl (by rw [hml]; rfl) (Steps.refl _) (argsL := [(.ref a1275)]) (rest := []) (lenOf ex_pd0 rfl) rfl (by show 2 * 0 + _ ≤ _; exact Nat.le_of_eq rfl) (hb hby ex_d22) (fun _ _ => ⟨rfl, e1275, Nat.le_of_ble_eq_true rfl, Nat.le_of_ble_eq_true rfl⟩)
      dsimp only [Pt.U, Pt.locs, Pt.cells, Pt.slots] at X1285 l1285 y1285 z1285 st1285 hQ1285
      subst l1285 y1285 z1285
      rw [if_pos hD] at hQ1285
      obtain ⟨rfl, N1285q, hh1285⟩ := hQ1285
      refine own_seq st1285 ?_
      have N1285 := Fr.app N1274 N1285q
      show OwnGo p e below (T1285.setTop (mkF m 25 #[.val (.ref a1)] [(.int (1 : Int32))])) _
      refine own_back (fun t k => XS.ifNo X1285.here hx rfl (hb hby ex_d25) rfl (Jvm.Free.XT.i0_eq_f (by decide)) k) ?_
      show OwnGo p e below (T1285.setTop (mkF m 28 #[.val (.ref a1)] [])) _
      obtain ⟨T1286, X1286, e1286, st1286⟩ := getS2 X1285 hx hZ1275 hown1275 (host := "") (Or.inl (hw _ (List.mem_of_getElem? (i := 78) rfl))) Via.refl hh1285 (SD.ext O1276.2) (g := (mkF m 28 #[.val (.ref a1)] [])) rfl (hb hby ex_d28)
      refine own_back st1286 ?_
      show OwnGo p e below (T1286.setTop (mkF m 31 #[.val (.ref a1)] [(.ref wD)])) _
      refine own_retAW X1286 hx Bd.notSynchronized Bd.returns rfl rfl hS1275 hk1275 hZ1275 hEL (hh ▸ CR1279) (hb hby ex_d31) e1286 (Nat.le_of_ble_eq_true rfl) (Nat.le_of_ble_eq_true rfl) ?_
      exact ⟨by rw [if_neg hS, if_pos hD], N1285, own_ext KP1277⟩
    · obtain ⟨cq1287, kq1287, q1287a, q1287b, q1287c⟩ := isOf hZ1275 e1275 f1280.exa
      obtain ⟨_, _, ⟨T1287, L1287, k1287, n1287⟩, -, X1287, ⟨Lc1287, hQ1287, l1287, y1287, z1287⟩, st1287⟩ := X1275.virtualBack hx (y := (⟨"java/lang/String", "equals", "(Ljava/lang/Object;)Z"⟩ : MethodName)) (z := (⟨"java/lang/String", "equals", "(Ljava/lang/Object;)Z"⟩ : MethodName)) hown1275 (mvT hZ1275 (hw _ (List.mem_of_getElem? (i := 75) rfl))) (mvT hZ1275 (hw _ (List.mem_of_getElem? (i := 60) rfl))) (notFace_of_selects (args := #[]) (mvT hZ1275 (hw _ (List.mem_of_getElem? (i := 62) rfl)))) (mvT hZ1275 (hw _ (List.mem_of_getElem? (i := 62) rfl))) (mvT hZ1275 (hw _ (List.mem_of_getElem? (i := 61) rfl))) (by decide) (own_backN (W := 0) (rm_seq l Z a0 hw [] a1 a1275 bs [115, 116, 111, 99, 107, 45, 100, 105, 115, 116, 114, 105, 98, 117, 116, 105, 111, 110] cz h1275 n0 Zs1278 O1276 f1280 (⟨_, _, EX1275, FC1275, FV1275, AV1275, Nat.le_of_ble_eq_true rfl⟩ : OwnStr Z h1275 a1275 [115, 116, 111, 99, 107, 45, 100, 105, 115, 116, 114, 105, 98, 117, 116, 105, 111, 110]) SC hcz) hZ1275 (hw _ (List.mem_of_getElem? (i := 63) rfl)) (hw _ (List.mem_of_getElem? (i := 8) rfl)) (by decide) (by decide)) q1287a q1287c (g := (mkF m 22 #[.val (.ref a1)] [(.ref a1275), (.ref a1)])) rfl (by rw [hml]; rfl) (Steps.refl _) (argsL := [(.ref a1275)]) (rest := []) (lenOf ex_pd0 rfl) rfl (by show 2 * 0 + _ ≤ _; exact Nat.le_of_eq rfl) (hb hby ex_d22) (fun _ _ => ⟨rfl, e1275, Nat.le_of_ble_eq_true rfl, Nat.le_of_ble_eq_true rfl⟩)
      dsimp only [Pt.U, Pt.locs, Pt.cells, Pt.slots] at X1287 l1287 y1287 z1287 st1287 hQ1287
      subst l1287 y1287 z1287
      rw [if_neg hD] at hQ1287
      obtain ⟨rfl, N1287q, hh1287⟩ := hQ1287
      refine own_seq st1287 ?_
      have N1287 := Fr.app N1274 N1287q
      show OwnGo p e below (T1287.setTop (mkF m 25 #[.val (.ref a1)] [(.int (0 : Int32))])) _
      refine own_back (fun t k => XS.ifYes X1287.here hx rfl (pc0 := 25) (pc' := 32) rfl (hb hby ex_d25) rfl (Jvm.Free.XT.i0_eq_t (by decide)) (by decide) (by decide) k) ?_
      show OwnGo p e below (T1287.setTop (mkF m 32 #[.val (.ref a1)] [])) _
      refine own_back (fun t k => XS.aloadN X1287.here hx rfl (hb hby ex_d32) rfl rfl k) ?_
      show OwnGo p e below (T1287.setTop (mkF m 33 #[.val (.ref a1)] [(.ref a1)])) _
      obtain ⟨a1288, T1288, h1288, k11288, t1288, kb1288, X1288, e1288, E1288, hS1288, hk1288, hZ1288, hown1288, EX1288, FC1288, FV1288, AV1288, la1288, lb1288, CRl1288, hLit1288, sx1288, st1288⟩ := ldcCH X1287 hx hZ1275 hown1275 (hw _ (List.mem_of_getElem? (i := 77) rfl)) (own_wS hw) hh1287 hS1275 hk1275 hEL (List.mem_of_getElem? (i := 2) rfl) CR1279.1 (vs := [(.int 114), (.int 105), (.int 103), (.int 104), (.int 116), (.int 115), (.int 45), (.int 105), (.int 115), (.int 115), (.int 117), (.int 101)]) (z := 12) ⟨by decide, by decide⟩ (by decide) (by decide) (g := (mkF m 33 #[.val (.ref a1)] [(.ref a1)])) rfl (hb hby ex_d33) (n := 48) (Nat.le_of_ble_eq_true rfl) (by decide) (Nat.le_of_ble_eq_true rfl) (Nat.le_of_ble_eq_true rfl)
      have O1289 := O1276.ext E1288
      have KP1290 := KP1277.ext E1288
      have Zs1291 := Nat.le_trans Zs1278 E1288.1
      have CR1292 := CR1279.trans CRl1288
      have f1293 := f1280.ext E1288
      have f1294 := f1281.ext E1288
      have f1295 := f1282.ext E1288
      have f1296 := f1283.ext E1288
      have f1297 := f1284.ext E1288
      have f1298 := EX1275.ext E1288
      have f1299 := FC1275.ext E1288
      have f1300 := FV1275.ext E1288
      have f1301 := AV1275.ext E1288
      refine own_back st1288 ?_
      show OwnGo p e below (T1288.setTop (mkF m 35 #[.val (.ref a1)] [(.ref a1288), (.ref a1)])) _
      by_cases hR : bs = ([114, 105, 103, 104, 116, 115, 45, 105, 115, 115, 117, 101] : List Int32)
      · obtain ⟨cq1302, kq1302, q1302a, q1302b, q1302c⟩ := isOf hZ1288 e1288 f1293.exa
        obtain ⟨_, _, ⟨T1302, L1302, k1302, n1302⟩, -, X1302, ⟨Lc1302, hQ1302, l1302, y1302, z1302⟩, st1302⟩ := X1288.virtualBack hx (y := (⟨"java/lang/String", "equals", "(Ljava/lang/Object;)Z"⟩ : MethodName)) (z := (⟨"java/lang/String", "equals", "(Ljava/lang/Object;)Z"⟩ : MethodName)) hown1288 (mvT hZ1288 (hw _ (List.mem_of_getElem? (i := 75) rfl))) (mvT hZ1288 (hw _ (List.mem_of_getElem? (i := 60) rfl))) (notFace_of_selects (args := #[]) (mvT hZ1288 (hw _ (List.mem_of_getElem? (i := 62) rfl)))) (mvT hZ1288 (hw _ (List.mem_of_getElem? (i := 62) rfl))) (mvT hZ1288 (hw _ (List.mem_of_getElem? (i := 61) rfl))) (by decide) (own_backN (W := 0) (rm_seq l Z a0 hw [] a1 a1288 bs [114, 105, 103, 104, 116, 115, 45, 105, 115, 115, 117, 101] cz h1288 n0 Zs1291 O1289 f1293 (⟨_, _, EX1288, FC1288, FV1288, AV1288, Nat.le_of_ble_eq_true rfl⟩ : OwnStr Z h1288 a1288 [114, 105, 103, 104, 116, 115, 45, 105, 115, 115, 117, 101]) SC hcz) hZ1288 (hw _ (List.mem_of_getElem? (i := 63) rfl)) (hw _ (List.mem_of_getElem? (i := 8) rfl)) (by decide) (by decide)) q1302a q1302c (g := (mkF m 35 #[.val (.ref a1)] [(.ref a1288), (.ref a1)])) rfl (by rw [hml]; rfl) (Steps.refl _) (argsL := [(.ref a1288)]) (rest := []) (lenOf ex_pd0 rfl) rfl (by show 2 * 0 + _ ≤ _; exact Nat.le_of_eq rfl) (hb hby ex_d35) (fun _ _ => ⟨rfl, e1288, Nat.le_of_ble_eq_true rfl, Nat.le_of_ble_eq_true rfl⟩)
        dsimp only [Pt.U, Pt.locs, Pt.cells, Pt.slots] at X1302 l1302 y1302 z1302 st1302 hQ1302
        subst l1302 y1302 z1302
        rw [if_pos hR] at hQ1302
        obtain ⟨rfl, N1302q, hh1302⟩ := hQ1302
        refine own_seq st1302 ?_
        have N1302 := Fr.app N1287 N1302q
        show OwnGo p e below (T1302.setTop (mkF m 38 #[.val (.ref a1)] [(.int (1 : Int32))])) _
        refine own_back (fun t k => XS.ifNo X1302.here hx rfl (hb hby ex_d38) rfl (Jvm.Free.XT.i0_eq_f (by decide)) k) ?_
        show OwnGo p e below (T1302.setTop (mkF m 41 #[.val (.ref a1)] [])) _
        obtain ⟨T1303, X1303, e1303, st1303⟩ := getS2 X1302 hx hZ1288 hown1288 (host := "") (Or.inl (hw _ (List.mem_of_getElem? (i := 83) rfl))) Via.refl hh1302 (SR.ext O1289.2) (g := (mkF m 41 #[.val (.ref a1)] [])) rfl (hb hby ex_d41)
        refine own_back st1303 ?_
        show OwnGo p e below (T1303.setTop (mkF m 44 #[.val (.ref a1)] [(.ref wR)])) _
        refine own_retAW X1303 hx Bd.notSynchronized Bd.returns rfl rfl hS1288 hk1288 hZ1288 hEL (hh ▸ CR1292) (hb hby ex_d44) e1303 (Nat.le_of_ble_eq_true rfl) (Nat.le_of_ble_eq_true rfl) ?_
        exact ⟨by rw [if_neg hS, if_neg hD, if_pos hR], N1302, own_ext KP1290⟩
      · obtain ⟨cq1304, kq1304, q1304a, q1304b, q1304c⟩ := isOf hZ1288 e1288 f1293.exa
        obtain ⟨_, _, ⟨T1304, L1304, k1304, n1304⟩, -, X1304, ⟨Lc1304, hQ1304, l1304, y1304, z1304⟩, st1304⟩ := X1288.virtualBack hx (y := (⟨"java/lang/String", "equals", "(Ljava/lang/Object;)Z"⟩ : MethodName)) (z := (⟨"java/lang/String", "equals", "(Ljava/lang/Object;)Z"⟩ : MethodName)) hown1288 (mvT hZ1288 (hw _ (List.mem_of_getElem? (i := 75) rfl))) (mvT hZ1288 (hw _ (List.mem_of_getElem? (i := 60) rfl))) (notFace_of_selects (args := #[]) (mvT hZ1288 (hw _ (List.mem_of_getElem? (i := 62) rfl)))) (mvT hZ1288 (hw _ (List.mem_of_getElem? (i := 62) rfl))) (mvT hZ1288 (hw _ (List.mem_of_getElem? (i := 61) rfl))) (by decide) (own_backN (W := 0) (rm_seq l Z a0 hw [] a1 a1288 bs [114, 105, 103, 104, 116, 115, 45, 105, 115, 115, 117, 101] cz h1288 n0 Zs1291 O1289 f1293 (⟨_, _, EX1288, FC1288, FV1288, AV1288, Nat.le_of_ble_eq_true rfl⟩ : OwnStr Z h1288 a1288 [114, 105, 103, 104, 116, 115, 45, 105, 115, 115, 117, 101]) SC hcz) hZ1288 (hw _ (List.mem_of_getElem? (i := 63) rfl)) (hw _ (List.mem_of_getElem? (i := 8) rfl)) (by decide) (by decide)) q1304a q1304c (g := (mkF m 35 #[.val (.ref a1)] [(.ref a1288), (.ref a1)])) rfl (by rw [hml]; rfl) (Steps.refl _) (argsL := [(.ref a1288)]) (rest := []) (lenOf ex_pd0 rfl) rfl (by show 2 * 0 + _ ≤ _; exact Nat.le_of_eq rfl) (hb hby ex_d35) (fun _ _ => ⟨rfl, e1288, Nat.le_of_ble_eq_true rfl, Nat.le_of_ble_eq_true rfl⟩)
        dsimp only [Pt.U, Pt.locs, Pt.cells, Pt.slots] at X1304 l1304 y1304 z1304 st1304 hQ1304
        subst l1304 y1304 z1304
        rw [if_neg hR] at hQ1304
        obtain ⟨rfl, N1304q, hh1304⟩ := hQ1304
        refine own_seq st1304 ?_
        have N1304 := Fr.app N1287 N1304q
        show OwnGo p e below (T1304.setTop (mkF m 38 #[.val (.ref a1)] [(.int (0 : Int32))])) _
        refine own_back (fun t k => XS.ifYes X1304.here hx rfl (pc0 := 38) (pc' := 45) rfl (hb hby ex_d38) rfl (Jvm.Free.XT.i0_eq_t (by decide)) (by decide) (by decide) k) ?_
        show OwnGo p e below (T1304.setTop (mkF m 45 #[.val (.ref a1)] [])) _
        refine own_back (fun t k => XS.aconstNull X1304.here hx rfl (hb hby ex_d45) k) ?_
        show OwnGo p e below (T1304.setTop (mkF m 46 #[.val (.ref a1)] [.null])) _
        refine own_retAW X1304 hx Bd.notSynchronized Bd.returns rfl rfl hS1288 hk1288 hZ1288 hEL (hh ▸ CR1292) (hb hby ex_d46) hh1304 (Nat.le_of_ble_eq_true rfl) (Nat.le_of_ble_eq_true rfl) ?_
        exact ⟨by rw [if_neg hS, if_neg hD, if_neg hR], N1304, own_ext KP1290⟩
theorem exn_d0 : decode method_4_code 0 = .ok (.aload_n 0, 1) := by decide +kernel
theorem exn_d1 : decode method_4_code 1 = .ok (.ifnonnull 5, 3) := by decide +kernel
theorem exn_d4 : decode method_4_code 4 = .ok (.aconst_null, 1) := by decide +kernel
theorem exn_d5 : decode method_4_code 5 = .ok (.areturn, 1) := by decide +kernel
theorem exn_pn : plainName "com/example/indexwright/indexwright/marketdata/KindOfPinLaw" = true := by first | (simp [plainName, overriddenIn]; done) | decide +kernel
theorem exn_ef (m : MethodId)  : entryFrame m #[.null] 1 = mkF m 0 #[.val .null] [] := by first | (simp [entryFrame, mkF, argsToLocals, Value.category]; done) | rfl
set_option maxRecDepth 65536 in
set_option maxHeartbeats 40000000 in
theorem rm_exn (l : Launch) (Z : State) (a0 : Array Value) (hw : ∀ d ∈ tables_1, d.before a0 Z = true) (ws : List Jvm.Cond) (cz : Int32) (h0 : Heap) (n0 : Nat) (Z0 : n0 ≤ h0.size) (OL : Old Z n0 h0) :
    MetFree l (⟨"com/example/indexwright/indexwright/marketdata/KindOfPinLaw", "expected", "(Ljava/lang/String;)Lcom/example/indexwright/indexwright/marketdata/ShareAdjustment$Kind;"⟩ : MethodName) (head1 (Jvm.Cond.code (⟨"com/example/indexwright/indexwright/marketdata/KindOfPinLaw", "expected", "(Ljava/lang/String;)Lcom/example/indexwright/indexwright/marketdata/ShareAdjustment$Kind;"⟩ : MethodName) method_4_code 1 (some (.object "com/example/indexwright/indexwright/marketdata/ShareAdjustment$Kind")) :: ws) ({ frames := 2, cells := 6, slots := 152, locals := 50 } : Room)) (fun a U => a = #[.null] ∧ Z.Warmed39 U.vm ∧ U.heap = h0 ∧ CHv Z own_EL U.vm h0 ∧ ∀ x ∈ ([] : List Addr), Safe Z own_EL U.vm h0 x) (fun _ _ _ _ _ => True) (fun _ U o U' => OwnEndW Z own_EL U (fun v h L => v = some .null ∧ Fr n0 L ∧ Ext h0 h) ({ frames := 2, cells := 6, slots := 152, locals := 50 } : Room).cells ({ frames := 2, cells := 6, slots := 152, locals := 50 } : Room).slots o U') := by
  refine MetFree.of_bodySF (plainFor_of_name exn_pn) hisR ?_
  intro p e s m args below meth c s₁ Bd hml0 hP hK
  obtain ⟨rfl, hZ, hh, hCH, hSL⟩ := hP
  have hx := Bd.exec
  have hby := Bd.bytes
  have hml : c.maxLocals = 1 := hml0
  have hown : s.vm.findClass "com/example/indexwright/indexwright/marketdata/KindOfPinLaw" = some m.cls := findClass_of_methodNamed Bd.named
  have hnm := (name_of_methodNamed Bd.named Bd.method).1
  have X0 : Stand p l e ({ frames := 2, cells := 6, slots := 152, locals := 50 } : Room) (s.setVm s.vm) m #[.null] below meth c s₁ [] 0 0 := Stand.of_body Bd
  have e0 : s₁.heap = h0 := by rw [← hh, Bd.state]; rfl
  have N0 := Fr.nil n0
  have KP0 := Keep.refl h0 []
  have hown : (s.setVm s.vm).vm.findClass "com/example/indexwright/indexwright/marketdata/KindOfPinLaw" = some m.cls := hown
  have hZ : Z.Warmed39 (s.setVm s.vm).vm := hZ
  have hS0 : s.Since s.vm 0 := (State.WarmedH.refl s).since 0
  have hk0 : 0 ≤ h0.size := Nat.zero_le _
  have CR0 : CHr Z own_EL s.vm h0 s.vm h0 := CHr.refl hCH
  have hEL := own_EW hw
  refine own_go (Q := (OwnEndW Z own_EL s (fun v h L => v = some .null ∧ Fr n0 L ∧ Ext h0 h) ({ frames := 2, cells := 6, slots := 152, locals := 50 } : Room).cells ({ frames := 2, cells := 6, slots := 152, locals := 50 } : Room).slots)) ?_
  refine own_back (fun t k => castTop (exn_ef m ) k) ?_
  show OwnGo p e below (s₁.setTop (mkF m 0 #[.val .null] [])) _
  refine own_back (fun t k => XS.aloadN X0.here hx rfl (hb hby exn_d0) rfl rfl k) ?_
  show OwnGo p e below (s₁.setTop (mkF m 1 #[.val .null] [.null])) _
  refine own_back (fun t k => XS.ifnonnullNo X0.here hx rfl (hb hby exn_d1) rfl k) ?_
  show OwnGo p e below (s₁.setTop (mkF m 4 #[.val .null] [])) _
  refine own_back (fun t k => XS.aconstNull X0.here hx rfl (hb hby exn_d4) k) ?_
  show OwnGo p e below (s₁.setTop (mkF m 5 #[.val .null] [.null])) _
  refine own_retAW X0 hx Bd.notSynchronized Bd.returns rfl rfl hS0 hk0 hZ hEL (hh ▸ CR0) (hb hby exn_d5) e0 (Nat.le_of_ble_eq_true rfl) (Nat.le_of_ble_eq_true rfl) ?_
  exact ⟨rfl, N0, own_ext KP0⟩
theorem own_stMono {p : Program} {l : Launch} {e : Env} {R : Room} {s : State} {m : MethodId} {args : Array Value} {below : List Frame} {meth : Method} {c : Code} {T : State} {locs : List Loc} {cells slots C S : Nat} (X : Stand p l e R s m args below meth c T locs cells slots) (hc : cells ≤ C) (hs : slots ≤ S) : Stand p l e R s m args below meth c T locs C S := { X with same := X.same.mono hc hs }
theorem own_pos {n : Nat} {x : Int32} (h1 : 1 ≤ n) (h2 : n ≤ 19) : ¬ ((x &&& (2147483647 : Int32)) % Int32.ofNat n) < 0 ∧ ((x &&& (2147483647 : Int32)) % Int32.ofNat n) < Int32.ofNat n := by
  have hm := c_mask x 2147483647 31 (by decide) (by decide)
  have e : ((2 ^ 31 : Nat) : Int) = 2147483648 := by decide
  rw [e] at hm
  have hn := own_i32 (n := n) (by omega)
  have hr := (c_irem (x &&& (2147483647 : Int32)) (Int32.ofNat n) n hn).1 (by omega)
  have q1 := Int.emod_nonneg (x &&& (2147483647 : Int32)).toInt (b := (n : Int)) (by omega)
  have q2 := Int.emod_lt_of_pos (x &&& (2147483647 : Int32)).toInt (b := (n : Int)) (by omega)
  rw [Int32.lt_iff_toInt_lt, Int32.lt_iff_toInt_lt, hr, hn]
  have z : (0 : Int32).toInt = 0 := rfl
  omega
theorem own_nz32 {n : Nat} (h1 : 1 ≤ n) (h2 : n ≤ 19) : Int32.ofNat n ≠ 0 := fun e => by
  have := congrArg Int32.toInt e
  rw [own_i32 (by omega)] at this
  have z : (0 : Int32).toInt = 0 := rfl
  omega
theorem own_plt {cs : List Int32} {j : Int32} (h1 : 1 ≤ cs.length) (h2 : cs.length ≤ 19) (hj : ¬ j < 0 ∧ j < Int32.ofNat cs.length) : j.toNatClampNeg < (cs.map Value.int).length := by
  have q := nat_of hj.1
  have q2 := hj.2
  rw [Int32.lt_iff_toInt_lt, own_i32 (by omega)] at q2
  rw [List.length_map]
  omega
theorem own_setall {cs : List Int32} {i : Nat} {y : Int32} (h : ∀ z ∈ cs, OwnCh z) (hy : OwnCh y) : ∀ z ∈ cs.set i y, OwnCh z := fun z hz => by
  rcases List.mem_or_eq_of_mem_set hz with q | q
  · exact h z q
  · rw [q]; exact hy
theorem lw_pn : plainName "com/example/indexwright/indexwright/marketdata/KindOfPinLaw" = true := by first | (simp [plainName, overriddenIn]; done) | decide +kernel
theorem lw_pd0 : parseMethodDescriptor "(IIII)Ljava/lang/String;" = some ⟨[.int, .int, .int, .int], some (.object "java/lang/String")⟩ := by decide +kernel
theorem lw_pd1 : parseMethodDescriptor "(Ljava/lang/String;)Lcom/example/indexwright/indexwright/marketdata/ShareAdjustment$Kind;" = some ⟨[(.object "java/lang/String")], some (.object "com/example/indexwright/indexwright/marketdata/ShareAdjustment$Kind")⟩ := by decide +kernel
theorem lw_pd2 : parseMethodDescriptor "(IIC)[C" = some ⟨[.int, .int, .char], some (.array .char)⟩ := by decide +kernel
theorem lw_pd3 : parseMethodDescriptor "([C)V" = some ⟨[(.array .char)], none⟩ := by decide +kernel
theorem lw_ef (m : MethodId) (x0 : Int32) (x1 : Int32) (x2 : Int32) (x3 : Int32) (x4 : Int32) (x5 : Int32) : entryFrame m #[(.int x0), (.int x1), (.int x2), (.int x3), (.int x4), (.int x5)] maxLocals = mkF m 0 #[.val (.int x0), .val (.int x1), .val (.int x2), .val (.int x3), .val (.int x4), .val (.int x5), .unset, .unset, .unset, .unset, .unset, .unset, .unset] [] := by first | (simp [entryFrame, mkF, argsToLocals, Value.category, maxLocals]; done) | rfl
set_option maxRecDepth 65536 in
set_option maxHeartbeats 40000000 in
theorem rm_law (l : Launch) (Z : State) (a0 : Array Value) (hw : ∀ d ∈ tables_1, d.before a0 Z = true) (ws : List Jvm.Cond) (p1 : Int32) (p2 : Int32) (p3 : Int32) (p4 : Int32) (p5 : Int32) (p6 : Int32) (wS : Addr) (wD : Addr) (wR : Addr) (wV : Addr) (kV : ClassId) (kS : Addr) (kD : Addr) (kR : Addr) (cz : Int32) (h0 : Heap) (n0 : Nat) (Z0 : n0 ≤ h0.size) (OL : Old Z n0 h0) (SS : Sta Z Z.heap "com/example/indexwright/indexwright/marketdata/ShareAdjustment$Kind" "SPLIT" "Lcom/example/indexwright/indexwright/marketdata/ShareAdjustment$Kind;" (.ref wS)) (SD : Sta Z Z.heap "com/example/indexwright/indexwright/marketdata/ShareAdjustment$Kind" "STOCK_DISTRIBUTION" "Lcom/example/indexwright/indexwright/marketdata/ShareAdjustment$Kind;" (.ref wD)) (SR : Sta Z Z.heap "com/example/indexwright/indexwright/marketdata/ShareAdjustment$Kind" "RIGHTS_ISSUE" "Lcom/example/indexwright/indexwright/marketdata/ShareAdjustment$Kind;" (.ref wR)) (SV : Sta Z Z.heap "com/example/indexwright/indexwright/marketdata/ShareAdjustment$Kind" "$VALUES" "[Lcom/example/indexwright/indexwright/marketdata/ShareAdjustment$Kind;" (.ref wV)) (AV : Arv Z Z.heap wV kV (.object "com/example/indexwright/indexwright/marketdata/ShareAdjustment$Kind") 3 [.ref wS, .ref wD, .ref wR] .null) (EV : Exa Z Z.heap wV "[Lcom/example/indexwright/indexwright/marketdata/ShareAdjustment$Kind;") (FV : ∀ c, Z.heap[wV]? = some c → FitC Z c) (FS : Fld Z Z.heap wS "com/example/indexwright/indexwright/marketdata/ShareAdjustment$Kind" "type" "Ljava/lang/String;" (.ref kS)) (FD : Fld Z Z.heap wD "com/example/indexwright/indexwright/marketdata/ShareAdjustment$Kind" "type" "Ljava/lang/String;" (.ref kD)) (FR : Fld Z Z.heap wR "com/example/indexwright/indexwright/marketdata/ShareAdjustment$Kind" "type" "Ljava/lang/String;" (.ref kR)) (BS : OwnStr Z Z.heap kS [115, 112, 108, 105, 116]) (BD : OwnStr Z Z.heap kD [115, 116, 111, 99, 107, 45, 100, 105, 115, 116, 114, 105, 98, 117, 116, 105, 111, 110]) (BR : OwnStr Z Z.heap kR [114, 105, 103, 104, 116, 115, 45, 105, 115, 115, 117, 101]) (SC : Sta Z Z.heap "java/lang/String" "COMPACT_STRINGS" "Z" (.int cz)) (hcz : ¬ cz = 0) :
    MetFree l x (head1 (Jvm.Cond.code x code maxLocals ret :: ws) room_1) (fun a U => a = #[(.int p1), (.int p2), (.int p3), (.int p4), (.int p5), (.int p6)] ∧ Z.Warmed39 U.vm ∧ U.heap = h0 ∧ CHv Z own_EL U.vm h0 ∧ ∀ x ∈ ([] : List Addr), Safe Z own_EL U.vm h0 x) (fun _ _ _ _ _ => True) (fun _ U o U' => OwnEndW Z own_EL U (fun v h L => v = some (.int 1) ∧ Fr n0 L) room_1.cells room_1.slots o U') := by
  refine MetFree.of_bodySF (plainFor_of_name lw_pn) hisR ?_
  intro p e s m args below meth c s₁ Bd hml0 hP hK
  obtain ⟨rfl, hZ, hh, hCH, hSL⟩ := hP
  have hx := Bd.exec
  have hby := Bd.bytes
  have hml : c.maxLocals = 13 := hml0
  have hown : s.vm.findClass "com/example/indexwright/indexwright/marketdata/KindOfPinLaw" = some m.cls := findClass_of_methodNamed Bd.named
  have hnm := (name_of_methodNamed Bd.named Bd.method).1
  have X0 : Stand p l e room_1 (s.setVm s.vm) m #[(.int p1), (.int p2), (.int p3), (.int p4), (.int p5), (.int p6)] below meth c s₁ [] 0 0 := Stand.of_body Bd
  have e0 : s₁.heap = h0 := by rw [← hh, Bd.state]; rfl
  have N0 := Fr.nil n0
  have KP0 := Keep.refl h0 []
  have hown : (s.setVm s.vm).vm.findClass "com/example/indexwright/indexwright/marketdata/KindOfPinLaw" = some m.cls := hown
  have hZ : Z.Warmed39 (s.setVm s.vm).vm := hZ
  have hS0 : s.Since s.vm 0 := (State.WarmedH.refl s).since 0
  have hk0 : 0 ≤ h0.size := Nat.zero_le _
  have CR0 : CHr Z own_EL s.vm h0 s.vm h0 := CHr.refl hCH
  have hEL := own_EW hw
  refine own_go (Q := (OwnEndW Z own_EL s (fun v h L => v = some (.int 1) ∧ Fr n0 L) room_1.cells room_1.slots)) ?_
  refine own_back (fun t k => castTop (lw_ef m p1 p2 p3 p4 p5 p6) k) ?_
  show OwnGo p e below (s₁.setTop (mkF m 0 #[.val (.int p1), .val (.int p2), .val (.int p3), .val (.int p4), .val (.int p5), .val (.int p6), .unset, .unset, .unset, .unset, .unset, .unset, .unset] [])) _
  refine own_back (fun t k => XS.iloadN X0.here hx rfl (hb hby at_0) rfl k) ?_
  show OwnGo p e below (s₁.setTop (mkF m 1 #[.val (.int p1), .val (.int p2), .val (.int p3), .val (.int p4), .val (.int p5), .val (.int p6), .unset, .unset, .unset, .unset, .unset, .unset, .unset] [(.int p1)])) _
  refine own_back (fun t k => X0.ldcInt hx hown (mvT hZ (hw _ (List.mem_of_getElem? (i := 0) rfl))) (g := (mkF m 1 #[.val (.int p1), .val (.int p2), .val (.int p3), .val (.int p4), .val (.int p5), .val (.int p6), .unset, .unset, .unset, .unset, .unset, .unset, .unset] [(.int p1)])) rfl (hb hby at_1) t k) ?_
  show OwnGo p e below (s₁.setTop (mkF m 3 #[.val (.int p1), .val (.int p2), .val (.int p3), .val (.int p4), .val (.int p5), .val (.int p6), .unset, .unset, .unset, .unset, .unset, .unset, .unset] [(.int (2147483647 : Int32)), (.int p1)])) _
  refine own_back (fun t k => XS.iand X0.here hx rfl (hb hby at_3) rfl k) ?_
  show OwnGo p e below (s₁.setTop (mkF m 4 #[.val (.int p1), .val (.int p2), .val (.int p3), .val (.int p4), .val (.int p5), .val (.int p6), .unset, .unset, .unset, .unset, .unset, .unset, .unset] [(.int (p1 &&& (2147483647 : Int32)))])) _
  refine own_back (fun t k => XS.iconst X0.here hx rfl (hb hby at_4) k) ?_
  show OwnGo p e below (s₁.setTop (mkF m 5 #[.val (.int p1), .val (.int p2), .val (.int p3), .val (.int p4), .val (.int p5), .val (.int p6), .unset, .unset, .unset, .unset, .unset, .unset, .unset] [(.int (3 : Int32)), (.int (p1 &&& (2147483647 : Int32)))])) _
  refine own_back (fun t k => iremM X0 hx rfl (hb hby at_5) rfl (by decide) k) ?_
  show OwnGo p e below (s₁.setTop (mkF m 6 #[.val (.int p1), .val (.int p2), .val (.int p3), .val (.int p4), .val (.int p5), .val (.int p6), .unset, .unset, .unset, .unset, .unset, .unset, .unset] [(.int ((p1 &&& (2147483647 : Int32)) % (3 : Int32)))])) _
  refine own_back (fun t k => XS.istore X0.here hx rfl (hb hby at_6) rfl (l' := #[.val (.int p1), .val (.int p2), .val (.int p3), .val (.int p4), .val (.int p5), .val (.int p6), .val (.int ((p1 &&& (2147483647 : Int32)) % (3 : Int32))), .unset, .unset, .unset, .unset, .unset, .unset]) rfl k) ?_
  show OwnGo p e below (s₁.setTop (mkF m 8 #[.val (.int p1), .val (.int p2), .val (.int p3), .val (.int p4), .val (.int p5), .val (.int p6), .val (.int ((p1 &&& (2147483647 : Int32)) % (3 : Int32))), .unset, .unset, .unset, .unset, .unset, .unset] [])) _
  refine own_back (fun t k => XS.iloadN X0.here hx rfl (hb hby at_8) rfl k) ?_
  show OwnGo p e below (s₁.setTop (mkF m 9 #[.val (.int p1), .val (.int p2), .val (.int p3), .val (.int p4), .val (.int p5), .val (.int p6), .val (.int ((p1 &&& (2147483647 : Int32)) % (3 : Int32))), .unset, .unset, .unset, .unset, .unset, .unset] [(.int p2)])) _
  refine own_back (fun t k => X0.ldcInt hx hown (mvT hZ (hw _ (List.mem_of_getElem? (i := 0) rfl))) (g := (mkF m 9 #[.val (.int p1), .val (.int p2), .val (.int p3), .val (.int p4), .val (.int p5), .val (.int p6), .val (.int ((p1 &&& (2147483647 : Int32)) % (3 : Int32))), .unset, .unset, .unset, .unset, .unset, .unset] [(.int p2)])) rfl (hb hby at_9) t k) ?_
  show OwnGo p e below (s₁.setTop (mkF m 11 #[.val (.int p1), .val (.int p2), .val (.int p3), .val (.int p4), .val (.int p5), .val (.int p6), .val (.int ((p1 &&& (2147483647 : Int32)) % (3 : Int32))), .unset, .unset, .unset, .unset, .unset, .unset] [(.int (2147483647 : Int32)), (.int p2)])) _
  refine own_back (fun t k => XS.iand X0.here hx rfl (hb hby at_11) rfl k) ?_
  show OwnGo p e below (s₁.setTop (mkF m 12 #[.val (.int p1), .val (.int p2), .val (.int p3), .val (.int p4), .val (.int p5), .val (.int p6), .val (.int ((p1 &&& (2147483647 : Int32)) % (3 : Int32))), .unset, .unset, .unset, .unset, .unset, .unset] [(.int (p2 &&& (2147483647 : Int32)))])) _
  refine own_back (fun t k => XS.iconst X0.here hx rfl (hb hby at_12) k) ?_
  show OwnGo p e below (s₁.setTop (mkF m 13 #[.val (.int p1), .val (.int p2), .val (.int p3), .val (.int p4), .val (.int p5), .val (.int p6), .val (.int ((p1 &&& (2147483647 : Int32)) % (3 : Int32))), .unset, .unset, .unset, .unset, .unset, .unset] [(.int (5 : Int32)), (.int (p2 &&& (2147483647 : Int32)))])) _
  refine own_back (fun t k => iremM X0 hx rfl (hb hby at_13) rfl (by decide) k) ?_
  show OwnGo p e below (s₁.setTop (mkF m 14 #[.val (.int p1), .val (.int p2), .val (.int p3), .val (.int p4), .val (.int p5), .val (.int p6), .val (.int ((p1 &&& (2147483647 : Int32)) % (3 : Int32))), .unset, .unset, .unset, .unset, .unset, .unset] [(.int ((p2 &&& (2147483647 : Int32)) % (5 : Int32)))])) _
  refine own_back (fun t k => XS.istore X0.here hx rfl (hb hby at_14) rfl (l' := #[.val (.int p1), .val (.int p2), .val (.int p3), .val (.int p4), .val (.int p5), .val (.int p6), .val (.int ((p1 &&& (2147483647 : Int32)) % (3 : Int32))), .val (.int ((p2 &&& (2147483647 : Int32)) % (5 : Int32))), .unset, .unset, .unset, .unset, .unset]) rfl k) ?_
  show OwnGo p e below (s₁.setTop (mkF m 16 #[.val (.int p1), .val (.int p2), .val (.int p3), .val (.int p4), .val (.int p5), .val (.int p6), .val (.int ((p1 &&& (2147483647 : Int32)) % (3 : Int32))), .val (.int ((p2 &&& (2147483647 : Int32)) % (5 : Int32))), .unset, .unset, .unset, .unset, .unset] [])) _
  refine own_back (fun t k => XS.iloadN X0.here hx rfl (hb hby at_16) rfl k) ?_
  show OwnGo p e below (s₁.setTop (mkF m 17 #[.val (.int p1), .val (.int p2), .val (.int p3), .val (.int p4), .val (.int p5), .val (.int p6), .val (.int ((p1 &&& (2147483647 : Int32)) % (3 : Int32))), .val (.int ((p2 &&& (2147483647 : Int32)) % (5 : Int32))), .unset, .unset, .unset, .unset, .unset] [(.int p4)])) _
  refine own_back (fun t k => XS.sipush X0.here hx rfl (hb hby at_17) k) ?_
  show OwnGo p e below (s₁.setTop (mkF m 20 #[.val (.int p1), .val (.int p2), .val (.int p3), .val (.int p4), .val (.int p5), .val (.int p6), .val (.int ((p1 &&& (2147483647 : Int32)) % (3 : Int32))), .val (.int ((p2 &&& (2147483647 : Int32)) % (5 : Int32))), .unset, .unset, .unset, .unset, .unset] [(.int (255 : Int32)), (.int p4)])) _
  refine own_back (fun t k => XS.iand X0.here hx rfl (hb hby at_20) rfl k) ?_
  show OwnGo p e below (s₁.setTop (mkF m 21 #[.val (.int p1), .val (.int p2), .val (.int p3), .val (.int p4), .val (.int p5), .val (.int p6), .val (.int ((p1 &&& (2147483647 : Int32)) % (3 : Int32))), .val (.int ((p2 &&& (2147483647 : Int32)) % (5 : Int32))), .unset, .unset, .unset, .unset, .unset] [(.int (p4 &&& (255 : Int32)))])) _
  refine own_back (fun t k => XS.i2c X0.here hx rfl (hb hby at_21) rfl k) ?_
  show OwnGo p e below (s₁.setTop (mkF m 22 #[.val (.int p1), .val (.int p2), .val (.int p3), .val (.int p4), .val (.int p5), .val (.int p6), .val (.int ((p1 &&& (2147483647 : Int32)) % (3 : Int32))), .val (.int ((p2 &&& (2147483647 : Int32)) % (5 : Int32))), .unset, .unset, .unset, .unset, .unset] [(.int (p4 &&& (255 : Int32)).toUInt32.toUInt16.toUInt32.toInt32)])) _
  refine own_back (fun t k => XS.istore X0.here hx rfl (hb hby at_22) rfl (l' := #[.val (.int p1), .val (.int p2), .val (.int p3), .val (.int p4), .val (.int p5), .val (.int p6), .val (.int ((p1 &&& (2147483647 : Int32)) % (3 : Int32))), .val (.int ((p2 &&& (2147483647 : Int32)) % (5 : Int32))), .val (.int (p4 &&& (255 : Int32)).toUInt32.toUInt16.toUInt32.toInt32), .unset, .unset, .unset, .unset]) rfl k) ?_
  show OwnGo p e below (s₁.setTop (mkF m 24 #[.val (.int p1), .val (.int p2), .val (.int p3), .val (.int p4), .val (.int p5), .val (.int p6), .val (.int ((p1 &&& (2147483647 : Int32)) % (3 : Int32))), .val (.int ((p2 &&& (2147483647 : Int32)) % (5 : Int32))), .val (.int (p4 &&& (255 : Int32)).toUInt32.toUInt16.toUInt32.toInt32), .unset, .unset, .unset, .unset] [])) _
  obtain ⟨x8, ex8⟩ : ∃ z : Int32, z = (p4 &&& (255 : Int32)).toUInt32.toUInt16.toUInt32.toInt32 := ⟨_, rfl⟩
  rw [← ex8]
  have hx8 : OwnCh x8 := by rw [ex8, i2c_mask]; exact own_m255 _
  obtain ⟨ww, eww⟩ : ∃ z : Int32, z = ((p1 &&& (2147483647 : Int32)) % (3 : Int32)) := ⟨_, rfl⟩
  rw [← eww]
  obtain ⟨mo, emo⟩ : ∃ z : Int32, z = ((p2 &&& (2147483647 : Int32)) % (5 : Int32)) := ⟨_, rfl⟩
  rw [← emo]
  show OwnGo p e below (s₁.setTop (mkF m 24 #[.val (.int p1), .val (.int p2), .val (.int p3), .val (.int p4), .val (.int p5), .val (.int p6), .val (.int ww), .val (.int mo), .val (.int x8), .unset, .unset, .unset, .unset] [])) _
  refine own_back (fun t k => XS.iload X0.here hx rfl (hb hby at_24) rfl k) ?_
  show OwnGo p e below (s₁.setTop (mkF m 26 #[.val (.int p1), .val (.int p2), .val (.int p3), .val (.int p4), .val (.int p5), .val (.int p6), .val (.int ww), .val (.int mo), .val (.int x8), .unset, .unset, .unset, .unset] [(.int mo)])) _
  refine own_back (fun t k => XS.iconst X0.here hx rfl (hb hby at_26) k) ?_
  show OwnGo p e below (s₁.setTop (mkF m 27 #[.val (.int p1), .val (.int p2), .val (.int p3), .val (.int p4), .val (.int p5), .val (.int p6), .val (.int ww), .val (.int mo), .val (.int x8), .unset, .unset, .unset, .unset] [(.int (4 : Int32)), (.int mo)])) _
  by_cases hc27_1305 : mo = (4 : Int32)
  · refine own_back (fun t k => XS.icmpNo X0.here hx rfl (hb hby at_27) rfl (Jvm.Free.XT.ii_ne_f hc27_1305) k) ?_
    show OwnGo p e below (s₁.setTop (mkF m 30 #[.val (.int p1), .val (.int p2), .val (.int p3), .val (.int p4), .val (.int p5), .val (.int p6), .val (.int ww), .val (.int mo), .val (.int x8), .unset, .unset, .unset, .unset] [])) _
    refine own_back (fun t k => XS.iloadN X0.here hx rfl (hb hby at_30) rfl k) ?_
    show OwnGo p e below (s₁.setTop (mkF m 31 #[.val (.int p1), .val (.int p2), .val (.int p3), .val (.int p4), .val (.int p5), .val (.int p6), .val (.int ww), .val (.int mo), .val (.int x8), .unset, .unset, .unset, .unset] [(.int p3)])) _
    refine own_back (fun t k => XS.iloadN X0.here hx rfl (hb hby at_31) rfl k) ?_
    show OwnGo p e below (s₁.setTop (mkF m 32 #[.val (.int p1), .val (.int p2), .val (.int p3), .val (.int p4), .val (.int p5), .val (.int p6), .val (.int ww), .val (.int mo), .val (.int x8), .unset, .unset, .unset, .unset] [(.int p4), (.int p3)])) _
    refine own_back (fun t k => XS.iload X0.here hx rfl (hb hby at_32) rfl k) ?_
    show OwnGo p e below (s₁.setTop (mkF m 34 #[.val (.int p1), .val (.int p2), .val (.int p3), .val (.int p4), .val (.int p5), .val (.int p6), .val (.int ww), .val (.int mo), .val (.int x8), .unset, .unset, .unset, .unset] [(.int p5), (.int p4), (.int p3)])) _
    refine own_back (fun t k => XS.iload X0.here hx rfl (hb hby at_34) rfl k) ?_
    show OwnGo p e below (s₁.setTop (mkF m 36 #[.val (.int p1), .val (.int p2), .val (.int p3), .val (.int p4), .val (.int p5), .val (.int p6), .val (.int ww), .val (.int mo), .val (.int x8), .unset, .unset, .unset, .unset] [(.int p6), (.int p5), (.int p4), (.int p3)])) _
    obtain ⟨_, _, ⟨T1306, L1306, k1306, n1306⟩, -, X1306, hSn1306, hgr1306, ⟨Lc1306, hQ1306, l1306, y1306, z1306, CRn1306⟩, st1306⟩ := callSS X0 hx (y := (⟨"com/example/indexwright/indexwright/marketdata/KindOfPinLaw", "drawn", "(IIII)Ljava/lang/String;"⟩ : MethodName)) hown (mvT hZ (hw _ (List.mem_of_getElem? (i := 79) rfl))) (mvT hZ (hw _ (List.mem_of_getElem? (i := 80) rfl))) (mvT hZ (hw _ (List.mem_of_getElem? (i := 3) rfl))) (mvT hZ (hw _ (List.mem_of_getElem? (i := 81) rfl))) (by decide) (own_backH (W := 0) (rm_dr l Z a0 hw [] p3 p4 p5 p6 cz h0 n0 Z0 OL SC hcz) hZ (hw _ (List.mem_of_getElem? (i := 81) rfl)) (hw _ (List.mem_of_getElem? (i := 3) rfl)) (by decide) (by decide) hEL CR0.1 sf0 all0) (g := (mkF m 36 #[.val (.int p1), .val (.int p2), .val (.int p3), .val (.int p4), .val (.int p5), .val (.int p6), .val (.int ww), .val (.int mo), .val (.int x8), .unset, .unset, .unset, .unset] [(.int p6), (.int p5), (.int p4), (.int p3)])) rfl (by rw [hml]; rfl) (argsL := [(.int p3), (.int p4), (.int p5), (.int p6)]) (rest := []) (lenOf lw_pd0 rfl) rfl (by show 2 * 0 + _ ≤ _; exact Nat.le_of_eq rfl) (hb hby at_36) (fun _ _ => ⟨rfl, e0, Nat.le_of_ble_eq_true rfl, Nat.le_of_ble_eq_true rfl⟩)
    dsimp only [Pt.U, Pt.locs, Pt.cells, Pt.slots] at X1306 l1306 y1306 z1306 st1306 hQ1306 hSn1306 hgr1306 CRn1306
    subst l1306 y1306 z1306
    obtain ⟨Xr1306, hSr1306, hZr1306, hownr1306⟩ := rebS hS0 (own_hle e0 hk0) X1306 hSn1306 hgr1306 hZ hown
    obtain ⟨N1306q, E1306, V1306⟩ := hQ1306
    refine own_seq st1306 ?_
    have N1306 := Fr.app N0 N1306q
    have O1307 := OL.ext E1306
    have KP1308 := KP0.ext E1306
    have Zs1309 := Nat.le_trans Z0 E1306.1
    have CR1310 := CR0.trans CRn1306
    rcases V1306 with rfl | ⟨ad, bd, rfl, Bdd⟩
    · show OwnGo p e below (T1306.setTop (mkF m 39 #[.val (.int p1), .val (.int p2), .val (.int p3), .val (.int p4), .val (.int p5), .val (.int p6), .val (.int ww), .val (.int mo), .val (.int x8), .unset, .unset, .unset, .unset] [.null])) _
      refine own_back (fun t k => XS.astore Xr1306.here hx rfl (hb hby at_39) rfl rfl (l' := #[.val (.int p1), .val (.int p2), .val (.int p3), .val (.int p4), .val (.int p5), .val (.int p6), .val (.int ww), .val (.int mo), .val (.int x8), .val .null, .unset, .unset, .unset]) rfl k) ?_
      show OwnGo p e below (T1306.setTop (mkF m 41 #[.val (.int p1), .val (.int p2), .val (.int p3), .val (.int p4), .val (.int p5), .val (.int p6), .val (.int ww), .val (.int mo), .val (.int x8), .val .null, .unset, .unset, .unset] [])) _
      refine own_back (fun t k => XS.goto Xr1306.here hx rfl (pc0 := 41) (pc' := 112) rfl (hb hby at_41) (by decide) (by decide) k) ?_
      show OwnGo p e below (T1306.setTop (mkF m 112 #[.val (.int p1), .val (.int p2), .val (.int p3), .val (.int p4), .val (.int p5), .val (.int p6), .val (.int ww), .val (.int mo), .val (.int x8), .val .null, .unset, .unset, .unset] [])) _
      refine own_back (fun t k => XS.aload Xr1306.here hx rfl (hb hby at_112) rfl rfl k) ?_
      show OwnGo p e below (T1306.setTop (mkF m 114 #[.val (.int p1), .val (.int p2), .val (.int p3), .val (.int p4), .val (.int p5), .val (.int p6), .val (.int ww), .val (.int mo), .val (.int x8), .val .null, .unset, .unset, .unset] [.null])) _
      obtain ⟨_, _, ⟨T1311, L1311, k1311, n1311⟩, -, X1311, ⟨Lc1311, hQ1311, l1311, y1311, z1311⟩, st1311⟩ := Jvm.LawKit.callS Xr1306 hx (y := (⟨"com/example/indexwright/indexwright/marketdata/ShareAdjustment$Kind", "of", "(Ljava/lang/String;)Lcom/example/indexwright/indexwright/marketdata/ShareAdjustment$Kind;"⟩ : MethodName)) hownr1306 (mvT hZr1306 (hw _ (List.mem_of_getElem? (i := 35) rfl))) (mvT hZr1306 (hw _ (List.mem_of_getElem? (i := 36) rfl))) (mvT hZr1306 (hw _ (List.mem_of_getElem? (i := 37) rfl))) (mvT hZr1306 (hw _ (List.mem_of_getElem? (i := 38) rfl))) (by decide) (own_backN (W := 0) (rm_ofn l Z a0 hw [] wS wD wR wV kV kS kD kR cz T1306.heap n0 Zs1309 O1307 SV AV EV FV FS FD FR BS BD BR SC hcz) hZr1306 (hw _ (List.mem_of_getElem? (i := 38) rfl)) (hw _ (List.mem_of_getElem? (i := 37) rfl)) (by decide) (by decide)) (g := (mkF m 114 #[.val (.int p1), .val (.int p2), .val (.int p3), .val (.int p4), .val (.int p5), .val (.int p6), .val (.int ww), .val (.int mo), .val (.int x8), .val .null, .unset, .unset, .unset] [.null])) rfl (by rw [hml]; rfl) (argsL := [.null]) (rest := []) (lenOf lw_pd1 rfl) rfl (by show 2 * 0 + _ ≤ _; exact Nat.le_of_eq rfl) (hb hby at_114) (fun _ _ => ⟨rfl, rfl, Nat.le_of_ble_eq_true rfl, Nat.le_of_ble_eq_true rfl⟩)
      dsimp only [Pt.U, Pt.locs, Pt.cells, Pt.slots] at X1311 l1311 y1311 z1311 st1311 hQ1311
      subst l1311 y1311 z1311
      obtain ⟨rfl, N1311q, E1311⟩ := hQ1311
      refine own_back st1311 ?_
      have N1311 := Fr.app N1306 N1311q
      have O1312 := O1307.ext E1311
      have KP1313 := KP1308.ext E1311
      have Zs1314 := Nat.le_trans Zs1309 E1311.1
      have CR1315 := CR1310.trans (CHr.ext E1311 CR1310.1)
      have hk1316 := Nat.le_trans (Nat.le_refl _) E1311.1
      show OwnGo p e below (T1311.setTop (mkF m 117 #[.val (.int p1), .val (.int p2), .val (.int p3), .val (.int p4), .val (.int p5), .val (.int p6), .val (.int ww), .val (.int mo), .val (.int x8), .val .null, .unset, .unset, .unset] [.null])) _
      refine own_back (fun t k => XS.astore X1311.here hx rfl (hb hby at_117) rfl rfl (l' := #[.val (.int p1), .val (.int p2), .val (.int p3), .val (.int p4), .val (.int p5), .val (.int p6), .val (.int ww), .val (.int mo), .val (.int x8), .val .null, .val .null, .unset, .unset]) rfl k) ?_
      show OwnGo p e below (T1311.setTop (mkF m 119 #[.val (.int p1), .val (.int p2), .val (.int p3), .val (.int p4), .val (.int p5), .val (.int p6), .val (.int ww), .val (.int mo), .val (.int x8), .val .null, .val .null, .unset, .unset] [])) _
      refine own_back (fun t k => XS.aload X1311.here hx rfl (hb hby at_119) rfl rfl k) ?_
      show OwnGo p e below (T1311.setTop (mkF m 121 #[.val (.int p1), .val (.int p2), .val (.int p3), .val (.int p4), .val (.int p5), .val (.int p6), .val (.int ww), .val (.int mo), .val (.int x8), .val .null, .val .null, .unset, .unset] [.null])) _
      refine own_back (fun t k => XS.aload X1311.here hx rfl (hb hby at_121) rfl rfl k) ?_
      show OwnGo p e below (T1311.setTop (mkF m 123 #[.val (.int p1), .val (.int p2), .val (.int p3), .val (.int p4), .val (.int p5), .val (.int p6), .val (.int ww), .val (.int mo), .val (.int x8), .val .null, .val .null, .unset, .unset] [.null, .null])) _
      obtain ⟨_, _, ⟨T1317, L1317, k1317, n1317⟩, -, X1317, hSn1317, hgr1317, ⟨Lc1317, hQ1317, l1317, y1317, z1317, CRn1317⟩, st1317⟩ := callSS X1311 hx (y := (⟨"com/example/indexwright/indexwright/marketdata/KindOfPinLaw", "expected", "(Ljava/lang/String;)Lcom/example/indexwright/indexwright/marketdata/ShareAdjustment$Kind;"⟩ : MethodName)) hownr1306 (mvT hZr1306 (hw _ (List.mem_of_getElem? (i := 69) rfl))) (mvT hZr1306 (hw _ (List.mem_of_getElem? (i := 70) rfl))) (mvT hZr1306 (hw _ (List.mem_of_getElem? (i := 3) rfl))) (mvT hZr1306 (hw _ (List.mem_of_getElem? (i := 71) rfl))) (by decide) (own_backH (W := 1) (rm_exn l Z a0 hw [] cz T1311.heap n0 Zs1314 O1312) hZr1306 (hw _ (List.mem_of_getElem? (i := 71) rfl)) (hw _ (List.mem_of_getElem? (i := 3) rfl)) (by decide) (by decide) hEL CR1315.1 sf0 all0) (g := (mkF m 123 #[.val (.int p1), .val (.int p2), .val (.int p3), .val (.int p4), .val (.int p5), .val (.int p6), .val (.int ww), .val (.int mo), .val (.int x8), .val .null, .val .null, .unset, .unset] [.null, .null])) rfl (by rw [hml]; rfl) (argsL := [.null]) (rest := [.null]) (lenOf lw_pd1 rfl) rfl (by show 2 * 0 + _ ≤ _; exact Nat.le_of_eq rfl) (hb hby at_123) (fun _ _ => ⟨rfl, rfl, Nat.le_of_ble_eq_true rfl, Nat.le_of_ble_eq_true rfl⟩)
      dsimp only [Pt.U, Pt.locs, Pt.cells, Pt.slots] at X1317 l1317 y1317 z1317 st1317 hQ1317 hSn1317 hgr1317 CRn1317
      subst l1317 y1317 z1317
      obtain ⟨Xr1317, hSr1317, hZr1317, hownr1317⟩ := rebS hSr1306 (own_hle rfl hk1316) X1317 hSn1317 hgr1317 hZr1306 hownr1306
      obtain ⟨rfl, N1317q, E1317⟩ := hQ1317
      refine own_seq st1317 ?_
      have N1317 := Fr.app N1311 N1317q
      have O1318 := O1312.ext E1317
      have KP1319 := KP1313.ext E1317
      have Zs1320 := Nat.le_trans Zs1314 E1317.1
      have CR1321 := CR1315.trans CRn1317
      show OwnGo p e below (T1317.setTop (mkF m 126 #[.val (.int p1), .val (.int p2), .val (.int p3), .val (.int p4), .val (.int p5), .val (.int p6), .val (.int ww), .val (.int mo), .val (.int x8), .val .null, .val .null, .unset, .unset] [.null, .null])) _
      refine own_back (fun t k => Jvm.RoadKit.acmp (g := (mkF m 126 #[.val (.int p1), .val (.int p2), .val (.int p3), .val (.int p4), .val (.int p5), .val (.int p6), .val (.int ww), .val (.int mo), .val (.int x8), .val .null, .val .null, .unset, .unset] [.null, .null])) Xr1317 hx rfl rfl rfl (pc0 := 126) (pc' := 129) (same := true) rfl (hb hby at_126) rfl (decide_eq_true rfl) (by decide) (by decide) k) ?_
      show OwnGo p e below (T1317.setTop (mkF m 129 #[.val (.int p1), .val (.int p2), .val (.int p3), .val (.int p4), .val (.int p5), .val (.int p6), .val (.int ww), .val (.int mo), .val (.int x8), .val .null, .val .null, .unset, .unset] [])) _
      refine own_back (fun t k => XS.iconst Xr1317.here hx rfl (hb hby at_129) k) ?_
      show OwnGo p e below (T1317.setTop (mkF m 130 #[.val (.int p1), .val (.int p2), .val (.int p3), .val (.int p4), .val (.int p5), .val (.int p6), .val (.int ww), .val (.int mo), .val (.int x8), .val .null, .val .null, .unset, .unset] [(.int (1 : Int32))])) _
      refine own_back (fun t k => XS.goto Xr1317.here hx rfl (pc0 := 130) (pc' := 134) rfl (hb hby at_130) (by decide) (by decide) k) ?_
      show OwnGo p e below (T1317.setTop (mkF m 134 #[.val (.int p1), .val (.int p2), .val (.int p3), .val (.int p4), .val (.int p5), .val (.int p6), .val (.int ww), .val (.int mo), .val (.int x8), .val .null, .val .null, .unset, .unset] [(.int (1 : Int32))])) _
      refine own_retNW Xr1317 hx Bd.notSynchronized (t := .boolean) (z := (1 : Int32)) Bd.returns (by simp) rfl hSr1317 (Nat.le_refl _) hZr1317 hEL (hh ▸ CR1321) (hb hby at_134) rfl (Nat.le_of_ble_eq_true rfl) (Nat.le_of_ble_eq_true rfl) ?_
      exact ⟨rfl, N1317⟩
    · show OwnGo p e below (T1306.setTop (mkF m 39 #[.val (.int p1), .val (.int p2), .val (.int p3), .val (.int p4), .val (.int p5), .val (.int p6), .val (.int ww), .val (.int mo), .val (.int x8), .unset, .unset, .unset, .unset] [(.ref ad)])) _
      refine own_back (fun t k => XS.astore Xr1306.here hx rfl (hb hby at_39) rfl rfl (l' := #[.val (.int p1), .val (.int p2), .val (.int p3), .val (.int p4), .val (.int p5), .val (.int p6), .val (.int ww), .val (.int mo), .val (.int x8), .val (.ref ad), .unset, .unset, .unset]) rfl k) ?_
      show OwnGo p e below (T1306.setTop (mkF m 41 #[.val (.int p1), .val (.int p2), .val (.int p3), .val (.int p4), .val (.int p5), .val (.int p6), .val (.int ww), .val (.int mo), .val (.int x8), .val (.ref ad), .unset, .unset, .unset] [])) _
      refine own_back (fun t k => XS.goto Xr1306.here hx rfl (pc0 := 41) (pc' := 112) rfl (hb hby at_41) (by decide) (by decide) k) ?_
      show OwnGo p e below (T1306.setTop (mkF m 112 #[.val (.int p1), .val (.int p2), .val (.int p3), .val (.int p4), .val (.int p5), .val (.int p6), .val (.int ww), .val (.int mo), .val (.int x8), .val (.ref ad), .unset, .unset, .unset] [])) _
      refine own_back (fun t k => XS.aload Xr1306.here hx rfl (hb hby at_112) rfl rfl k) ?_
      show OwnGo p e below (T1306.setTop (mkF m 114 #[.val (.int p1), .val (.int p2), .val (.int p3), .val (.int p4), .val (.int p5), .val (.int p6), .val (.int ww), .val (.int mo), .val (.int x8), .val (.ref ad), .unset, .unset, .unset] [(.ref ad)])) _
      by_cases hS : ([115, 112, 108, 105, 116] : List Int32) = bd
      · obtain ⟨_, _, ⟨T1322, L1322, k1322, n1322⟩, -, X1322, ⟨Lc1322, hQ1322, l1322, y1322, z1322⟩, st1322⟩ := Jvm.LawKit.callS Xr1306 hx (y := (⟨"com/example/indexwright/indexwright/marketdata/ShareAdjustment$Kind", "of", "(Ljava/lang/String;)Lcom/example/indexwright/indexwright/marketdata/ShareAdjustment$Kind;"⟩ : MethodName)) hownr1306 (mvT hZr1306 (hw _ (List.mem_of_getElem? (i := 35) rfl))) (mvT hZr1306 (hw _ (List.mem_of_getElem? (i := 36) rfl))) (mvT hZr1306 (hw _ (List.mem_of_getElem? (i := 37) rfl))) (mvT hZr1306 (hw _ (List.mem_of_getElem? (i := 38) rfl))) (by decide) (own_backN (W := 0) (rm_of l Z a0 hw [] ad bd wS wD wR wV kV kS kD kR cz T1306.heap n0 Zs1309 O1307 Bdd SV AV EV FV FS FD FR BS BD BR SC hcz) hZr1306 (hw _ (List.mem_of_getElem? (i := 38) rfl)) (hw _ (List.mem_of_getElem? (i := 37) rfl)) (by decide) (by decide)) (g := (mkF m 114 #[.val (.int p1), .val (.int p2), .val (.int p3), .val (.int p4), .val (.int p5), .val (.int p6), .val (.int ww), .val (.int mo), .val (.int x8), .val (.ref ad), .unset, .unset, .unset] [(.ref ad)])) rfl (by rw [hml]; rfl) (argsL := [(.ref ad)]) (rest := []) (lenOf lw_pd1 rfl) rfl (by show 2 * 0 + _ ≤ _; exact Nat.le_of_eq rfl) (hb hby at_114) (fun _ _ => ⟨rfl, rfl, Nat.le_of_ble_eq_true rfl, Nat.le_of_ble_eq_true rfl⟩)
        dsimp only [Pt.U, Pt.locs, Pt.cells, Pt.slots] at X1322 l1322 y1322 z1322 st1322 hQ1322
        subst l1322 y1322 z1322
        rw [if_pos hS] at hQ1322
        obtain ⟨rfl, N1322q, E1322⟩ := hQ1322
        refine own_back st1322 ?_
        have N1322 := Fr.app N1306 N1322q
        have O1323 := O1307.ext E1322
        have KP1324 := KP1308.ext E1322
        have Zs1325 := Nat.le_trans Zs1309 E1322.1
        have CR1326 := CR1310.trans (CHr.ext E1322 CR1310.1)
        have hk1327 := Nat.le_trans (Nat.le_refl _) E1322.1
        have f1328 := Bdd.ext E1322
        show OwnGo p e below (T1322.setTop (mkF m 117 #[.val (.int p1), .val (.int p2), .val (.int p3), .val (.int p4), .val (.int p5), .val (.int p6), .val (.int ww), .val (.int mo), .val (.int x8), .val (.ref ad), .unset, .unset, .unset] [(.ref wS)])) _
        refine own_back (fun t k => XS.astore X1322.here hx rfl (hb hby at_117) rfl rfl (l' := #[.val (.int p1), .val (.int p2), .val (.int p3), .val (.int p4), .val (.int p5), .val (.int p6), .val (.int ww), .val (.int mo), .val (.int x8), .val (.ref ad), .val (.ref wS), .unset, .unset]) rfl k) ?_
        show OwnGo p e below (T1322.setTop (mkF m 119 #[.val (.int p1), .val (.int p2), .val (.int p3), .val (.int p4), .val (.int p5), .val (.int p6), .val (.int ww), .val (.int mo), .val (.int x8), .val (.ref ad), .val (.ref wS), .unset, .unset] [])) _
        refine own_back (fun t k => XS.aload X1322.here hx rfl (hb hby at_119) rfl rfl k) ?_
        show OwnGo p e below (T1322.setTop (mkF m 121 #[.val (.int p1), .val (.int p2), .val (.int p3), .val (.int p4), .val (.int p5), .val (.int p6), .val (.int ww), .val (.int mo), .val (.int x8), .val (.ref ad), .val (.ref wS), .unset, .unset] [(.ref wS)])) _
        refine own_back (fun t k => XS.aload X1322.here hx rfl (hb hby at_121) rfl rfl k) ?_
        show OwnGo p e below (T1322.setTop (mkF m 123 #[.val (.int p1), .val (.int p2), .val (.int p3), .val (.int p4), .val (.int p5), .val (.int p6), .val (.int ww), .val (.int mo), .val (.int x8), .val (.ref ad), .val (.ref wS), .unset, .unset] [(.ref ad), (.ref wS)])) _
        obtain ⟨_, _, ⟨T1329, L1329, k1329, n1329⟩, -, X1329, hSn1329, hgr1329, ⟨Lc1329, hQ1329, l1329, y1329, z1329, CRn1329⟩, st1329⟩ := callSS X1322 hx (y := (⟨"com/example/indexwright/indexwright/marketdata/KindOfPinLaw", "expected", "(Ljava/lang/String;)Lcom/example/indexwright/indexwright/marketdata/ShareAdjustment$Kind;"⟩ : MethodName)) hownr1306 (mvT hZr1306 (hw _ (List.mem_of_getElem? (i := 69) rfl))) (mvT hZr1306 (hw _ (List.mem_of_getElem? (i := 70) rfl))) (mvT hZr1306 (hw _ (List.mem_of_getElem? (i := 3) rfl))) (mvT hZr1306 (hw _ (List.mem_of_getElem? (i := 71) rfl))) (by decide) (own_backH (W := 1) (rm_ex l Z a0 hw [] ad bd wS wD wR cz T1322.heap n0 Zs1325 O1323 f1328 SS SD SR SC hcz) hZr1306 (hw _ (List.mem_of_getElem? (i := 71) rfl)) (hw _ (List.mem_of_getElem? (i := 3) rfl)) (by decide) (by decide) hEL CR1326.1 sf0 all0) (g := (mkF m 123 #[.val (.int p1), .val (.int p2), .val (.int p3), .val (.int p4), .val (.int p5), .val (.int p6), .val (.int ww), .val (.int mo), .val (.int x8), .val (.ref ad), .val (.ref wS), .unset, .unset] [(.ref ad), (.ref wS)])) rfl (by rw [hml]; rfl) (argsL := [(.ref ad)]) (rest := [(.ref wS)]) (lenOf lw_pd1 rfl) rfl (by show 2 * 0 + _ ≤ _; exact Nat.le_of_eq rfl) (hb hby at_123) (fun _ _ => ⟨rfl, rfl, Nat.le_of_ble_eq_true rfl, Nat.le_of_ble_eq_true rfl⟩)
        dsimp only [Pt.U, Pt.locs, Pt.cells, Pt.slots] at X1329 l1329 y1329 z1329 st1329 hQ1329 hSn1329 hgr1329 CRn1329
        subst l1329 y1329 z1329
        obtain ⟨Xr1329, hSr1329, hZr1329, hownr1329⟩ := rebS hSr1306 (own_hle rfl hk1327) X1329 hSn1329 hgr1329 hZr1306 hownr1306
        rw [if_pos hS.symm] at hQ1329
        obtain ⟨rfl, N1329q, E1329⟩ := hQ1329
        refine own_seq st1329 ?_
        have N1329 := Fr.app N1322 N1329q
        have O1330 := O1323.ext E1329
        have KP1331 := KP1324.ext E1329
        have Zs1332 := Nat.le_trans Zs1325 E1329.1
        have CR1333 := CR1326.trans CRn1329
        have f1334 := f1328.ext E1329
        show OwnGo p e below (T1329.setTop (mkF m 126 #[.val (.int p1), .val (.int p2), .val (.int p3), .val (.int p4), .val (.int p5), .val (.int p6), .val (.int ww), .val (.int mo), .val (.int x8), .val (.ref ad), .val (.ref wS), .unset, .unset] [(.ref wS), (.ref wS)])) _
        refine own_back (fun t k => Jvm.RoadKit.acmp (g := (mkF m 126 #[.val (.int p1), .val (.int p2), .val (.int p3), .val (.int p4), .val (.int p5), .val (.int p6), .val (.int ww), .val (.int mo), .val (.int x8), .val (.ref ad), .val (.ref wS), .unset, .unset] [(.ref wS), (.ref wS)])) Xr1329 hx rfl rfl rfl (pc0 := 126) (pc' := 129) (same := true) rfl (hb hby at_126) rfl (decide_eq_true rfl) (by decide) (by decide) k) ?_
        show OwnGo p e below (T1329.setTop (mkF m 129 #[.val (.int p1), .val (.int p2), .val (.int p3), .val (.int p4), .val (.int p5), .val (.int p6), .val (.int ww), .val (.int mo), .val (.int x8), .val (.ref ad), .val (.ref wS), .unset, .unset] [])) _
        refine own_back (fun t k => XS.iconst Xr1329.here hx rfl (hb hby at_129) k) ?_
        show OwnGo p e below (T1329.setTop (mkF m 130 #[.val (.int p1), .val (.int p2), .val (.int p3), .val (.int p4), .val (.int p5), .val (.int p6), .val (.int ww), .val (.int mo), .val (.int x8), .val (.ref ad), .val (.ref wS), .unset, .unset] [(.int (1 : Int32))])) _
        refine own_back (fun t k => XS.goto Xr1329.here hx rfl (pc0 := 130) (pc' := 134) rfl (hb hby at_130) (by decide) (by decide) k) ?_
        show OwnGo p e below (T1329.setTop (mkF m 134 #[.val (.int p1), .val (.int p2), .val (.int p3), .val (.int p4), .val (.int p5), .val (.int p6), .val (.int ww), .val (.int mo), .val (.int x8), .val (.ref ad), .val (.ref wS), .unset, .unset] [(.int (1 : Int32))])) _
        refine own_retNW Xr1329 hx Bd.notSynchronized (t := .boolean) (z := (1 : Int32)) Bd.returns (by simp) rfl hSr1329 (Nat.le_refl _) hZr1329 hEL (hh ▸ CR1333) (hb hby at_134) rfl (Nat.le_of_ble_eq_true rfl) (Nat.le_of_ble_eq_true rfl) ?_
        exact ⟨rfl, N1329⟩
      · by_cases hD : ([115, 116, 111, 99, 107, 45, 100, 105, 115, 116, 114, 105, 98, 117, 116, 105, 111, 110] : List Int32) = bd
        · obtain ⟨_, _, ⟨T1335, L1335, k1335, n1335⟩, -, X1335, ⟨Lc1335, hQ1335, l1335, y1335, z1335⟩, st1335⟩ := Jvm.LawKit.callS Xr1306 hx (y := (⟨"com/example/indexwright/indexwright/marketdata/ShareAdjustment$Kind", "of", "(Ljava/lang/String;)Lcom/example/indexwright/indexwright/marketdata/ShareAdjustment$Kind;"⟩ : MethodName)) hownr1306 (mvT hZr1306 (hw _ (List.mem_of_getElem? (i := 35) rfl))) (mvT hZr1306 (hw _ (List.mem_of_getElem? (i := 36) rfl))) (mvT hZr1306 (hw _ (List.mem_of_getElem? (i := 37) rfl))) (mvT hZr1306 (hw _ (List.mem_of_getElem? (i := 38) rfl))) (by decide) (own_backN (W := 0) (rm_of l Z a0 hw [] ad bd wS wD wR wV kV kS kD kR cz T1306.heap n0 Zs1309 O1307 Bdd SV AV EV FV FS FD FR BS BD BR SC hcz) hZr1306 (hw _ (List.mem_of_getElem? (i := 38) rfl)) (hw _ (List.mem_of_getElem? (i := 37) rfl)) (by decide) (by decide)) (g := (mkF m 114 #[.val (.int p1), .val (.int p2), .val (.int p3), .val (.int p4), .val (.int p5), .val (.int p6), .val (.int ww), .val (.int mo), .val (.int x8), .val (.ref ad), .unset, .unset, .unset] [(.ref ad)])) rfl (by rw [hml]; rfl) (argsL := [(.ref ad)]) (rest := []) (lenOf lw_pd1 rfl) rfl (by show 2 * 0 + _ ≤ _; exact Nat.le_of_eq rfl) (hb hby at_114) (fun _ _ => ⟨rfl, rfl, Nat.le_of_ble_eq_true rfl, Nat.le_of_ble_eq_true rfl⟩)
          dsimp only [Pt.U, Pt.locs, Pt.cells, Pt.slots] at X1335 l1335 y1335 z1335 st1335 hQ1335
          subst l1335 y1335 z1335
          rw [if_neg hS, if_pos hD] at hQ1335
          obtain ⟨rfl, N1335q, E1335⟩ := hQ1335
          refine own_back st1335 ?_
          have N1335 := Fr.app N1306 N1335q
          have O1336 := O1307.ext E1335
          have KP1337 := KP1308.ext E1335
          have Zs1338 := Nat.le_trans Zs1309 E1335.1
          have CR1339 := CR1310.trans (CHr.ext E1335 CR1310.1)
          have hk1340 := Nat.le_trans (Nat.le_refl _) E1335.1
          have f1341 := Bdd.ext E1335
          show OwnGo p e below (T1335.setTop (mkF m 117 #[.val (.int p1), .val (.int p2), .val (.int p3), .val (.int p4), .val (.int p5), .val (.int p6), .val (.int ww), .val (.int mo), .val (.int x8), .val (.ref ad), .unset, .unset, .unset] [(.ref wD)])) _
          refine own_back (fun t k => XS.astore X1335.here hx rfl (hb hby at_117) rfl rfl (l' := #[.val (.int p1), .val (.int p2), .val (.int p3), .val (.int p4), .val (.int p5), .val (.int p6), .val (.int ww), .val (.int mo), .val (.int x8), .val (.ref ad), .val (.ref wD), .unset, .unset]) rfl k) ?_
          show OwnGo p e below (T1335.setTop (mkF m 119 #[.val (.int p1), .val (.int p2), .val (.int p3), .val (.int p4), .val (.int p5), .val (.int p6), .val (.int ww), .val (.int mo), .val (.int x8), .val (.ref ad), .val (.ref wD), .unset, .unset] [])) _
          refine own_back (fun t k => XS.aload X1335.here hx rfl (hb hby at_119) rfl rfl k) ?_
          show OwnGo p e below (T1335.setTop (mkF m 121 #[.val (.int p1), .val (.int p2), .val (.int p3), .val (.int p4), .val (.int p5), .val (.int p6), .val (.int ww), .val (.int mo), .val (.int x8), .val (.ref ad), .val (.ref wD), .unset, .unset] [(.ref wD)])) _
          refine own_back (fun t k => XS.aload X1335.here hx rfl (hb hby at_121) rfl rfl k) ?_
          show OwnGo p e below (T1335.setTop (mkF m 123 #[.val (.int p1), .val (.int p2), .val (.int p3), .val (.int p4), .val (.int p5), .val (.int p6), .val (.int ww), .val (.int mo), .val (.int x8), .val (.ref ad), .val (.ref wD), .unset, .unset] [(.ref ad), (.ref wD)])) _
          obtain ⟨_, _, ⟨T1342, L1342, k1342, n1342⟩, -, X1342, hSn1342, hgr1342, ⟨Lc1342, hQ1342, l1342, y1342, z1342, CRn1342⟩, st1342⟩ := callSS X1335 hx (y := (⟨"com/example/indexwright/indexwright/marketdata/KindOfPinLaw", "expected", "(Ljava/lang/String;)Lcom/example/indexwright/indexwright/marketdata/ShareAdjustment$Kind;"⟩ : MethodName)) hownr1306 (mvT hZr1306 (hw _ (List.mem_of_getElem? (i := 69) rfl))) (mvT hZr1306 (hw _ (List.mem_of_getElem? (i := 70) rfl))) (mvT hZr1306 (hw _ (List.mem_of_getElem? (i := 3) rfl))) (mvT hZr1306 (hw _ (List.mem_of_getElem? (i := 71) rfl))) (by decide) (own_backH (W := 1) (rm_ex l Z a0 hw [] ad bd wS wD wR cz T1335.heap n0 Zs1338 O1336 f1341 SS SD SR SC hcz) hZr1306 (hw _ (List.mem_of_getElem? (i := 71) rfl)) (hw _ (List.mem_of_getElem? (i := 3) rfl)) (by decide) (by decide) hEL CR1339.1 sf0 all0) (g := (mkF m 123 #[.val (.int p1), .val (.int p2), .val (.int p3), .val (.int p4), .val (.int p5), .val (.int p6), .val (.int ww), .val (.int mo), .val (.int x8), .val (.ref ad), .val (.ref wD), .unset, .unset] [(.ref ad), (.ref wD)])) rfl (by rw [hml]; rfl) (argsL := [(.ref ad)]) (rest := [(.ref wD)]) (lenOf lw_pd1 rfl) rfl (by show 2 * 0 + _ ≤ _; exact Nat.le_of_eq rfl) (hb hby at_123) (fun _ _ => ⟨rfl, rfl, Nat.le_of_ble_eq_true rfl, Nat.le_of_ble_eq_true rfl⟩)
          dsimp only [Pt.U, Pt.locs, Pt.cells, Pt.slots] at X1342 l1342 y1342 z1342 st1342 hQ1342 hSn1342 hgr1342 CRn1342
          subst l1342 y1342 z1342
          obtain ⟨Xr1342, hSr1342, hZr1342, hownr1342⟩ := rebS hSr1306 (own_hle rfl hk1340) X1342 hSn1342 hgr1342 hZr1306 hownr1306
          rw [if_neg (Ne.symm hS), if_pos hD.symm] at hQ1342
          obtain ⟨rfl, N1342q, E1342⟩ := hQ1342
          refine own_seq st1342 ?_
          have N1342 := Fr.app N1335 N1342q
          have O1343 := O1336.ext E1342
          have KP1344 := KP1337.ext E1342
          have Zs1345 := Nat.le_trans Zs1338 E1342.1
          have CR1346 := CR1339.trans CRn1342
          have f1347 := f1341.ext E1342
          show OwnGo p e below (T1342.setTop (mkF m 126 #[.val (.int p1), .val (.int p2), .val (.int p3), .val (.int p4), .val (.int p5), .val (.int p6), .val (.int ww), .val (.int mo), .val (.int x8), .val (.ref ad), .val (.ref wD), .unset, .unset] [(.ref wD), (.ref wD)])) _
          refine own_back (fun t k => Jvm.RoadKit.acmp (g := (mkF m 126 #[.val (.int p1), .val (.int p2), .val (.int p3), .val (.int p4), .val (.int p5), .val (.int p6), .val (.int ww), .val (.int mo), .val (.int x8), .val (.ref ad), .val (.ref wD), .unset, .unset] [(.ref wD), (.ref wD)])) Xr1342 hx rfl rfl rfl (pc0 := 126) (pc' := 129) (same := true) rfl (hb hby at_126) rfl (decide_eq_true rfl) (by decide) (by decide) k) ?_
          show OwnGo p e below (T1342.setTop (mkF m 129 #[.val (.int p1), .val (.int p2), .val (.int p3), .val (.int p4), .val (.int p5), .val (.int p6), .val (.int ww), .val (.int mo), .val (.int x8), .val (.ref ad), .val (.ref wD), .unset, .unset] [])) _
          refine own_back (fun t k => XS.iconst Xr1342.here hx rfl (hb hby at_129) k) ?_
          show OwnGo p e below (T1342.setTop (mkF m 130 #[.val (.int p1), .val (.int p2), .val (.int p3), .val (.int p4), .val (.int p5), .val (.int p6), .val (.int ww), .val (.int mo), .val (.int x8), .val (.ref ad), .val (.ref wD), .unset, .unset] [(.int (1 : Int32))])) _
          refine own_back (fun t k => XS.goto Xr1342.here hx rfl (pc0 := 130) (pc' := 134) rfl (hb hby at_130) (by decide) (by decide) k) ?_
          show OwnGo p e below (T1342.setTop (mkF m 134 #[.val (.int p1), .val (.int p2), .val (.int p3), .val (.int p4), .val (.int p5), .val (.int p6), .val (.int ww), .val (.int mo), .val (.int x8), .val (.ref ad), .val (.ref wD), .unset, .unset] [(.int (1 : Int32))])) _
          refine own_retNW Xr1342 hx Bd.notSynchronized (t := .boolean) (z := (1 : Int32)) Bd.returns (by simp) rfl hSr1342 (Nat.le_refl _) hZr1342 hEL (hh ▸ CR1346) (hb hby at_134) rfl (Nat.le_of_ble_eq_true rfl) (Nat.le_of_ble_eq_true rfl) ?_
          exact ⟨rfl, N1342⟩
        · by_cases hR : ([114, 105, 103, 104, 116, 115, 45, 105, 115, 115, 117, 101] : List Int32) = bd
          · obtain ⟨_, _, ⟨T1348, L1348, k1348, n1348⟩, -, X1348, ⟨Lc1348, hQ1348, l1348, y1348, z1348⟩, st1348⟩ := Jvm.LawKit.callS Xr1306 hx (y := (⟨"com/example/indexwright/indexwright/marketdata/ShareAdjustment$Kind", "of", "(Ljava/lang/String;)Lcom/example/indexwright/indexwright/marketdata/ShareAdjustment$Kind;"⟩ : MethodName)) hownr1306 (mvT hZr1306 (hw _ (List.mem_of_getElem? (i := 35) rfl))) (mvT hZr1306 (hw _ (List.mem_of_getElem? (i := 36) rfl))) (mvT hZr1306 (hw _ (List.mem_of_getElem? (i := 37) rfl))) (mvT hZr1306 (hw _ (List.mem_of_getElem? (i := 38) rfl))) (by decide) (own_backN (W := 0) (rm_of l Z a0 hw [] ad bd wS wD wR wV kV kS kD kR cz T1306.heap n0 Zs1309 O1307 Bdd SV AV EV FV FS FD FR BS BD BR SC hcz) hZr1306 (hw _ (List.mem_of_getElem? (i := 38) rfl)) (hw _ (List.mem_of_getElem? (i := 37) rfl)) (by decide) (by decide)) (g := (mkF m 114 #[.val (.int p1), .val (.int p2), .val (.int p3), .val (.int p4), .val (.int p5), .val (.int p6), .val (.int ww), .val (.int mo), .val (.int x8), .val (.ref ad), .unset, .unset, .unset] [(.ref ad)])) rfl (by rw [hml]; rfl) (argsL := [(.ref ad)]) (rest := []) (lenOf lw_pd1 rfl) rfl (by show 2 * 0 + _ ≤ _; exact Nat.le_of_eq rfl) (hb hby at_114) (fun _ _ => ⟨rfl, rfl, Nat.le_of_ble_eq_true rfl, Nat.le_of_ble_eq_true rfl⟩)
            dsimp only [Pt.U, Pt.locs, Pt.cells, Pt.slots] at X1348 l1348 y1348 z1348 st1348 hQ1348
            subst l1348 y1348 z1348
            rw [if_neg hS, if_neg hD, if_pos hR] at hQ1348
            obtain ⟨rfl, N1348q, E1348⟩ := hQ1348
            refine own_back st1348 ?_
            have N1348 := Fr.app N1306 N1348q
            have O1349 := O1307.ext E1348
            have KP1350 := KP1308.ext E1348
            have Zs1351 := Nat.le_trans Zs1309 E1348.1
            have CR1352 := CR1310.trans (CHr.ext E1348 CR1310.1)
            have hk1353 := Nat.le_trans (Nat.le_refl _) E1348.1
            have f1354 := Bdd.ext E1348
            show OwnGo p e below (T1348.setTop (mkF m 117 #[.val (.int p1), .val (.int p2), .val (.int p3), .val (.int p4), .val (.int p5), .val (.int p6), .val (.int ww), .val (.int mo), .val (.int x8), .val (.ref ad), .unset, .unset, .unset] [(.ref wR)])) _
            refine own_back (fun t k => XS.astore X1348.here hx rfl (hb hby at_117) rfl rfl (l' := #[.val (.int p1), .val (.int p2), .val (.int p3), .val (.int p4), .val (.int p5), .val (.int p6), .val (.int ww), .val (.int mo), .val (.int x8), .val (.ref ad), .val (.ref wR), .unset, .unset]) rfl k) ?_
            show OwnGo p e below (T1348.setTop (mkF m 119 #[.val (.int p1), .val (.int p2), .val (.int p3), .val (.int p4), .val (.int p5), .val (.int p6), .val (.int ww), .val (.int mo), .val (.int x8), .val (.ref ad), .val (.ref wR), .unset, .unset] [])) _
            refine own_back (fun t k => XS.aload X1348.here hx rfl (hb hby at_119) rfl rfl k) ?_
            show OwnGo p e below (T1348.setTop (mkF m 121 #[.val (.int p1), .val (.int p2), .val (.int p3), .val (.int p4), .val (.int p5), .val (.int p6), .val (.int ww), .val (.int mo), .val (.int x8), .val (.ref ad), .val (.ref wR), .unset, .unset] [(.ref wR)])) _
            refine own_back (fun t k => XS.aload X1348.here hx rfl (hb hby at_121) rfl rfl k) ?_
            show OwnGo p e below (T1348.setTop (mkF m 123 #[.val (.int p1), .val (.int p2), .val (.int p3), .val (.int p4), .val (.int p5), .val (.int p6), .val (.int ww), .val (.int mo), .val (.int x8), .val (.ref ad), .val (.ref wR), .unset, .unset] [(.ref ad), (.ref wR)])) _
            obtain ⟨_, _, ⟨T1355, L1355, k1355, n1355⟩, -, X1355, hSn1355, hgr1355, ⟨Lc1355, hQ1355, l1355, y1355, z1355, CRn1355⟩, st1355⟩ := callSS X1348 hx (y := (⟨"com/example/indexwright/indexwright/marketdata/KindOfPinLaw", "expected", "(Ljava/lang/String;)Lcom/example/indexwright/indexwright/marketdata/ShareAdjustment$Kind;"⟩ : MethodName)) hownr1306 (mvT hZr1306 (hw _ (List.mem_of_getElem? (i := 69) rfl))) (mvT hZr1306 (hw _ (List.mem_of_getElem? (i := 70) rfl))) (mvT hZr1306 (hw _ (List.mem_of_getElem? (i := 3) rfl))) (mvT hZr1306 (hw _ (List.mem_of_getElem? (i := 71) rfl))) (by decide) (own_backH (W := 1) (rm_ex l Z a0 hw [] ad bd wS wD wR cz T1348.heap n0 Zs1351 O1349 f1354 SS SD SR SC hcz) hZr1306 (hw _ (List.mem_of_getElem? (i := 71) rfl)) (hw _ (List.mem_of_getElem? (i := 3) rfl)) (by decide) (by decide) hEL CR1352.1 sf0 all0) (g := (mkF m 123 #[.val (.int p1), .val (.int p2), .val (.int p3), .val (.int p4), .val (.int p5), .val (.int p6), .val (.int ww), .val (.int mo), .val (.int x8), .val (.ref ad), .val (.ref wR), .unset, .unset] [(.ref ad), (.ref wR)])) rfl (by rw [hml]; rfl) (argsL := [(.ref ad)]) (rest := [(.ref wR)]) (lenOf lw_pd1 rfl) rfl (by show 2 * 0 + _ ≤ _; exact Nat.le_of_eq rfl) (hb hby at_123) (fun _ _ => ⟨rfl, rfl, Nat.le_of_ble_eq_true rfl, Nat.le_of_ble_eq_true rfl⟩)
            dsimp only [Pt.U, Pt.locs, Pt.cells, Pt.slots] at X1355 l1355 y1355 z1355 st1355 hQ1355 hSn1355 hgr1355 CRn1355
            subst l1355 y1355 z1355
            obtain ⟨Xr1355, hSr1355, hZr1355, hownr1355⟩ := rebS hSr1306 (own_hle rfl hk1353) X1355 hSn1355 hgr1355 hZr1306 hownr1306
            rw [if_neg (Ne.symm hS), if_neg (Ne.symm hD), if_pos hR.symm] at hQ1355
            obtain ⟨rfl, N1355q, E1355⟩ := hQ1355
            refine own_seq st1355 ?_
            have N1355 := Fr.app N1348 N1355q
            have O1356 := O1349.ext E1355
            have KP1357 := KP1350.ext E1355
            have Zs1358 := Nat.le_trans Zs1351 E1355.1
            have CR1359 := CR1352.trans CRn1355
            have f1360 := f1354.ext E1355
            show OwnGo p e below (T1355.setTop (mkF m 126 #[.val (.int p1), .val (.int p2), .val (.int p3), .val (.int p4), .val (.int p5), .val (.int p6), .val (.int ww), .val (.int mo), .val (.int x8), .val (.ref ad), .val (.ref wR), .unset, .unset] [(.ref wR), (.ref wR)])) _
            refine own_back (fun t k => Jvm.RoadKit.acmp (g := (mkF m 126 #[.val (.int p1), .val (.int p2), .val (.int p3), .val (.int p4), .val (.int p5), .val (.int p6), .val (.int ww), .val (.int mo), .val (.int x8), .val (.ref ad), .val (.ref wR), .unset, .unset] [(.ref wR), (.ref wR)])) Xr1355 hx rfl rfl rfl (pc0 := 126) (pc' := 129) (same := true) rfl (hb hby at_126) rfl (decide_eq_true rfl) (by decide) (by decide) k) ?_
            show OwnGo p e below (T1355.setTop (mkF m 129 #[.val (.int p1), .val (.int p2), .val (.int p3), .val (.int p4), .val (.int p5), .val (.int p6), .val (.int ww), .val (.int mo), .val (.int x8), .val (.ref ad), .val (.ref wR), .unset, .unset] [])) _
            refine own_back (fun t k => XS.iconst Xr1355.here hx rfl (hb hby at_129) k) ?_
            show OwnGo p e below (T1355.setTop (mkF m 130 #[.val (.int p1), .val (.int p2), .val (.int p3), .val (.int p4), .val (.int p5), .val (.int p6), .val (.int ww), .val (.int mo), .val (.int x8), .val (.ref ad), .val (.ref wR), .unset, .unset] [(.int (1 : Int32))])) _
            refine own_back (fun t k => XS.goto Xr1355.here hx rfl (pc0 := 130) (pc' := 134) rfl (hb hby at_130) (by decide) (by decide) k) ?_
            show OwnGo p e below (T1355.setTop (mkF m 134 #[.val (.int p1), .val (.int p2), .val (.int p3), .val (.int p4), .val (.int p5), .val (.int p6), .val (.int ww), .val (.int mo), .val (.int x8), .val (.ref ad), .val (.ref wR), .unset, .unset] [(.int (1 : Int32))])) _
            refine own_retNW Xr1355 hx Bd.notSynchronized (t := .boolean) (z := (1 : Int32)) Bd.returns (by simp) rfl hSr1355 (Nat.le_refl _) hZr1355 hEL (hh ▸ CR1359) (hb hby at_134) rfl (Nat.le_of_ble_eq_true rfl) (Nat.le_of_ble_eq_true rfl) ?_
            exact ⟨rfl, N1355⟩
          · obtain ⟨_, _, ⟨T1361, L1361, k1361, n1361⟩, -, X1361, ⟨Lc1361, hQ1361, l1361, y1361, z1361⟩, st1361⟩ := Jvm.LawKit.callS Xr1306 hx (y := (⟨"com/example/indexwright/indexwright/marketdata/ShareAdjustment$Kind", "of", "(Ljava/lang/String;)Lcom/example/indexwright/indexwright/marketdata/ShareAdjustment$Kind;"⟩ : MethodName)) hownr1306 (mvT hZr1306 (hw _ (List.mem_of_getElem? (i := 35) rfl))) (mvT hZr1306 (hw _ (List.mem_of_getElem? (i := 36) rfl))) (mvT hZr1306 (hw _ (List.mem_of_getElem? (i := 37) rfl))) (mvT hZr1306 (hw _ (List.mem_of_getElem? (i := 38) rfl))) (by decide) (own_backN (W := 0) (rm_of l Z a0 hw [] ad bd wS wD wR wV kV kS kD kR cz T1306.heap n0 Zs1309 O1307 Bdd SV AV EV FV FS FD FR BS BD BR SC hcz) hZr1306 (hw _ (List.mem_of_getElem? (i := 38) rfl)) (hw _ (List.mem_of_getElem? (i := 37) rfl)) (by decide) (by decide)) (g := (mkF m 114 #[.val (.int p1), .val (.int p2), .val (.int p3), .val (.int p4), .val (.int p5), .val (.int p6), .val (.int ww), .val (.int mo), .val (.int x8), .val (.ref ad), .unset, .unset, .unset] [(.ref ad)])) rfl (by rw [hml]; rfl) (argsL := [(.ref ad)]) (rest := []) (lenOf lw_pd1 rfl) rfl (by show 2 * 0 + _ ≤ _; exact Nat.le_of_eq rfl) (hb hby at_114) (fun _ _ => ⟨rfl, rfl, Nat.le_of_ble_eq_true rfl, Nat.le_of_ble_eq_true rfl⟩)
            dsimp only [Pt.U, Pt.locs, Pt.cells, Pt.slots] at X1361 l1361 y1361 z1361 st1361 hQ1361
            subst l1361 y1361 z1361
            rw [if_neg hS, if_neg hD, if_neg hR] at hQ1361
            obtain ⟨rfl, N1361q, E1361⟩ := hQ1361
            refine own_back st1361 ?_
            have N1361 := Fr.app N1306 N1361q
            have O1362 := O1307.ext E1361
            have KP1363 := KP1308.ext E1361
            have Zs1364 := Nat.le_trans Zs1309 E1361.1
            have CR1365 := CR1310.trans (CHr.ext E1361 CR1310.1)
            have hk1366 := Nat.le_trans (Nat.le_refl _) E1361.1
            have f1367 := Bdd.ext E1361
            show OwnGo p e below (T1361.setTop (mkF m 117 #[.val (.int p1), .val (.int p2), .val (.int p3), .val (.int p4), .val (.int p5), .val (.int p6), .val (.int ww), .val (.int mo), .val (.int x8), .val (.ref ad), .unset, .unset, .unset] [.null])) _
            refine own_back (fun t k => XS.astore X1361.here hx rfl (hb hby at_117) rfl rfl (l' := #[.val (.int p1), .val (.int p2), .val (.int p3), .val (.int p4), .val (.int p5), .val (.int p6), .val (.int ww), .val (.int mo), .val (.int x8), .val (.ref ad), .val .null, .unset, .unset]) rfl k) ?_
            show OwnGo p e below (T1361.setTop (mkF m 119 #[.val (.int p1), .val (.int p2), .val (.int p3), .val (.int p4), .val (.int p5), .val (.int p6), .val (.int ww), .val (.int mo), .val (.int x8), .val (.ref ad), .val .null, .unset, .unset] [])) _
            refine own_back (fun t k => XS.aload X1361.here hx rfl (hb hby at_119) rfl rfl k) ?_
            show OwnGo p e below (T1361.setTop (mkF m 121 #[.val (.int p1), .val (.int p2), .val (.int p3), .val (.int p4), .val (.int p5), .val (.int p6), .val (.int ww), .val (.int mo), .val (.int x8), .val (.ref ad), .val .null, .unset, .unset] [.null])) _
            refine own_back (fun t k => XS.aload X1361.here hx rfl (hb hby at_121) rfl rfl k) ?_
            show OwnGo p e below (T1361.setTop (mkF m 123 #[.val (.int p1), .val (.int p2), .val (.int p3), .val (.int p4), .val (.int p5), .val (.int p6), .val (.int ww), .val (.int mo), .val (.int x8), .val (.ref ad), .val .null, .unset, .unset] [(.ref ad), .null])) _
            obtain ⟨_, _, ⟨T1368, L1368, k1368, n1368⟩, -, X1368, hSn1368, hgr1368, ⟨Lc1368, hQ1368, l1368, y1368, z1368, CRn1368⟩, st1368⟩ := callSS X1361 hx (y := (⟨"com/example/indexwright/indexwright/marketdata/KindOfPinLaw", "expected", "(Ljava/lang/String;)Lcom/example/indexwright/indexwright/marketdata/ShareAdjustment$Kind;"⟩ : MethodName)) hownr1306 (mvT hZr1306 (hw _ (List.mem_of_getElem? (i := 69) rfl))) (mvT hZr1306 (hw _ (List.mem_of_getElem? (i := 70) rfl))) (mvT hZr1306 (hw _ (List.mem_of_getElem? (i := 3) rfl))) (mvT hZr1306 (hw _ (List.mem_of_getElem? (i := 71) rfl))) (by decide) (own_backH (W := 1) (rm_ex l Z a0 hw [] ad bd wS wD wR cz T1361.heap n0 Zs1364 O1362 f1367 SS SD SR SC hcz) hZr1306 (hw _ (List.mem_of_getElem? (i := 71) rfl)) (hw _ (List.mem_of_getElem? (i := 3) rfl)) (by decide) (by decide) hEL CR1365.1 sf0 all0) (g := (mkF m 123 #[.val (.int p1), .val (.int p2), .val (.int p3), .val (.int p4), .val (.int p5), .val (.int p6), .val (.int ww), .val (.int mo), .val (.int x8), .val (.ref ad), .val .null, .unset, .unset] [(.ref ad), .null])) rfl (by rw [hml]; rfl) (argsL := [(.ref ad)]) (rest := [.null]) (lenOf lw_pd1 rfl) rfl (by show 2 * 0 + _ ≤ _; exact Nat.le_of_eq rfl) (hb hby at_123) (fun _ _ => ⟨rfl, rfl, Nat.le_of_ble_eq_true rfl, Nat.le_of_ble_eq_true rfl⟩)
            dsimp only [Pt.U, Pt.locs, Pt.cells, Pt.slots] at X1368 l1368 y1368 z1368 st1368 hQ1368 hSn1368 hgr1368 CRn1368
            subst l1368 y1368 z1368
            obtain ⟨Xr1368, hSr1368, hZr1368, hownr1368⟩ := rebS hSr1306 (own_hle rfl hk1366) X1368 hSn1368 hgr1368 hZr1306 hownr1306
            rw [if_neg (Ne.symm hS), if_neg (Ne.symm hD), if_neg (Ne.symm hR)] at hQ1368
            obtain ⟨rfl, N1368q, E1368⟩ := hQ1368
            refine own_seq st1368 ?_
            have N1368 := Fr.app N1361 N1368q
            have O1369 := O1362.ext E1368
            have KP1370 := KP1363.ext E1368
            have Zs1371 := Nat.le_trans Zs1364 E1368.1
            have CR1372 := CR1365.trans CRn1368
            have f1373 := f1367.ext E1368
            show OwnGo p e below (T1368.setTop (mkF m 126 #[.val (.int p1), .val (.int p2), .val (.int p3), .val (.int p4), .val (.int p5), .val (.int p6), .val (.int ww), .val (.int mo), .val (.int x8), .val (.ref ad), .val .null, .unset, .unset] [.null, .null])) _
            refine own_back (fun t k => Jvm.RoadKit.acmp (g := (mkF m 126 #[.val (.int p1), .val (.int p2), .val (.int p3), .val (.int p4), .val (.int p5), .val (.int p6), .val (.int ww), .val (.int mo), .val (.int x8), .val (.ref ad), .val .null, .unset, .unset] [.null, .null])) Xr1368 hx rfl rfl rfl (pc0 := 126) (pc' := 129) (same := true) rfl (hb hby at_126) rfl (decide_eq_true rfl) (by decide) (by decide) k) ?_
            show OwnGo p e below (T1368.setTop (mkF m 129 #[.val (.int p1), .val (.int p2), .val (.int p3), .val (.int p4), .val (.int p5), .val (.int p6), .val (.int ww), .val (.int mo), .val (.int x8), .val (.ref ad), .val .null, .unset, .unset] [])) _
            refine own_back (fun t k => XS.iconst Xr1368.here hx rfl (hb hby at_129) k) ?_
            show OwnGo p e below (T1368.setTop (mkF m 130 #[.val (.int p1), .val (.int p2), .val (.int p3), .val (.int p4), .val (.int p5), .val (.int p6), .val (.int ww), .val (.int mo), .val (.int x8), .val (.ref ad), .val .null, .unset, .unset] [(.int (1 : Int32))])) _
            refine own_back (fun t k => XS.goto Xr1368.here hx rfl (pc0 := 130) (pc' := 134) rfl (hb hby at_130) (by decide) (by decide) k) ?_
            show OwnGo p e below (T1368.setTop (mkF m 134 #[.val (.int p1), .val (.int p2), .val (.int p3), .val (.int p4), .val (.int p5), .val (.int p6), .val (.int ww), .val (.int mo), .val (.int x8), .val (.ref ad), .val .null, .unset, .unset] [(.int (1 : Int32))])) _
            refine own_retNW Xr1368 hx Bd.notSynchronized (t := .boolean) (z := (1 : Int32)) Bd.returns (by simp) rfl hSr1368 (Nat.le_refl _) hZr1368 hEL (hh ▸ CR1372) (hb hby at_134) rfl (Nat.le_of_ble_eq_true rfl) (Nat.le_of_ble_eq_true rfl) ?_
            exact ⟨rfl, N1368⟩
  · refine own_back (fun t k => XS.icmpYes X0.here hx rfl (pc0 := 27) (pc' := 44) rfl (hb hby at_27) rfl (Jvm.Free.XT.ii_ne_t hc27_1305) (by decide) (by decide) k) ?_
    show OwnGo p e below (s₁.setTop (mkF m 44 #[.val (.int p1), .val (.int p2), .val (.int p3), .val (.int p4), .val (.int p5), .val (.int p6), .val (.int ww), .val (.int mo), .val (.int x8), .unset, .unset, .unset, .unset] [])) _
    have tl65_1374 : ∀ (Tj1374 : State) (hj1374 : Heap) (vv : Int32), OwnSt p l e room_1 s m #[(.int p1), (.int p2), (.int p3), (.int p4), (.int p5), (.int p6)] below meth c Z own_EL "com/example/indexwright/indexwright/marketdata/KindOfPinLaw" n0 h0 [] Tj1374 hj1374 0 0 → OwnGo p e below (Tj1374.setTop (mkF m 65 #[.val (.int p1), .val (.int p2), .val (.int p3), .val (.int p4), .val (.int p5), .val (.int p6), .val (.int ww), .val (.int mo), .val (.int x8), .unset, .unset, .unset, .unset] [(.int vv)])) (OwnEndW Z own_EL s (fun v h L => v = some (.int 1) ∧ Fr n0 L) room_1.cells room_1.slots) := by
      intro Tj1374 hj1374 vv HS1374
      obtain ⟨vj1374, kj1374, Lj1374, Xj1374, ej1374, hSj1374, hkj1374, hZj1374, hownj1374, CRj1374, Oj1374, KPj1374, Zj1374, Nj1374⟩ := HS1374
      show OwnGo p e below (Tj1374.setTop (mkF m 65 #[.val (.int p1), .val (.int p2), .val (.int p3), .val (.int p4), .val (.int p5), .val (.int p6), .val (.int ww), .val (.int mo), .val (.int x8), .unset, .unset, .unset, .unset] [(.int vv)])) _
      refine own_back (fun t k => XS.istore Xj1374.here hx rfl (hb hby at_65) rfl (l' := #[.val (.int p1), .val (.int p2), .val (.int p3), .val (.int p4), .val (.int p5), .val (.int p6), .val (.int ww), .val (.int mo), .val (.int x8), .unset, .val (.int vv), .unset, .unset]) rfl k) ?_
      show OwnGo p e below (Tj1374.setTop (mkF m 67 #[.val (.int p1), .val (.int p2), .val (.int p3), .val (.int p4), .val (.int p5), .val (.int p6), .val (.int ww), .val (.int mo), .val (.int x8), .unset, .val (.int vv), .unset, .unset] [])) _
      refine own_back (fun t k => XS.iload Xj1374.here hx rfl (hb hby at_67) rfl k) ?_
      show OwnGo p e below (Tj1374.setTop (mkF m 69 #[.val (.int p1), .val (.int p2), .val (.int p3), .val (.int p4), .val (.int p5), .val (.int p6), .val (.int ww), .val (.int mo), .val (.int x8), .unset, .val (.int vv), .unset, .unset] [(.int ww)])) _
      refine own_back (fun t k => XS.iload Xj1374.here hx rfl (hb hby at_69) rfl k) ?_
      show OwnGo p e below (Tj1374.setTop (mkF m 71 #[.val (.int p1), .val (.int p2), .val (.int p3), .val (.int p4), .val (.int p5), .val (.int p6), .val (.int ww), .val (.int mo), .val (.int x8), .unset, .val (.int vv), .unset, .unset] [(.int vv), (.int ww)])) _
      refine own_back (fun t k => XS.iload Xj1374.here hx rfl (hb hby at_71) rfl k) ?_
      show OwnGo p e below (Tj1374.setTop (mkF m 73 #[.val (.int p1), .val (.int p2), .val (.int p3), .val (.int p4), .val (.int p5), .val (.int p6), .val (.int ww), .val (.int mo), .val (.int x8), .unset, .val (.int vv), .unset, .unset] [(.int x8), (.int vv), (.int ww)])) _
      obtain ⟨_, _, ⟨T1375, L1375, k1375, n1375⟩, -, X1375, ⟨Lc1375, hQ1375, l1375, y1375, z1375⟩, st1375⟩ := Jvm.LawKit.callS Xj1374 hx (y := (⟨"com/example/indexwright/indexwright/marketdata/KindOfPinLaw", "word", "(IIC)[C"⟩ : MethodName)) hownj1374 (mvT hZj1374 (hw _ (List.mem_of_getElem? (i := 1) rfl))) (mvT hZj1374 (hw _ (List.mem_of_getElem? (i := 2) rfl))) (mvT hZj1374 (hw _ (List.mem_of_getElem? (i := 3) rfl))) (mvT hZj1374 (hw _ (List.mem_of_getElem? (i := 4) rfl))) (by decide) (own_backN (W := 0) (rm_wd l Z a0 hw [] ww vv x8 hj1374 n0 Zj1374 Oj1374 hx8) hZj1374 (hw _ (List.mem_of_getElem? (i := 4) rfl)) (hw _ (List.mem_of_getElem? (i := 3) rfl)) (by decide) (by decide)) (g := (mkF m 73 #[.val (.int p1), .val (.int p2), .val (.int p3), .val (.int p4), .val (.int p5), .val (.int p6), .val (.int ww), .val (.int mo), .val (.int x8), .unset, .val (.int vv), .unset, .unset] [(.int x8), (.int vv), (.int ww)])) rfl (by rw [hml]; rfl) (argsL := [(.int ww), (.int vv), (.int x8)]) (rest := []) (lenOf lw_pd2 rfl) rfl (by show 2 * 0 + _ ≤ _; exact Nat.le_of_eq rfl) (hb hby at_73) (fun _ _ => ⟨rfl, ej1374, Nat.le_of_ble_eq_true rfl, Nat.le_of_ble_eq_true rfl⟩)
      dsimp only [Pt.U, Pt.locs, Pt.cells, Pt.slots] at X1375 l1375 y1375 z1375 st1375 hQ1375
      subst l1375 y1375 z1375
      obtain ⟨ar, kr, cs, rfl, N1375q, E1375, VR, sr, hcs, hl1, hl2⟩ := hQ1375
      refine own_back st1375 ?_
      have N1375 := Fr.app Nj1374 N1375q
      have O1376 := Oj1374.ext E1375
      have KP1377 := KPj1374.ext E1375
      have Zs1378 := Nat.le_trans Zj1374 E1375.1
      have CR1379 := CRj1374.trans (CHr.ext E1375 CRj1374.1)
      have hk1380 := Nat.le_trans hkj1374 E1375.1
      have ge1381 := Nat.le_trans Zj1374 sr
      have sz1382 := Nat.le_trans KPj1374.1 sr
      show OwnGo p e below (T1375.setTop (mkF m 76 #[.val (.int p1), .val (.int p2), .val (.int p3), .val (.int p4), .val (.int p5), .val (.int p6), .val (.int ww), .val (.int mo), .val (.int x8), .unset, .val (.int vv), .unset, .unset] [(.ref ar)])) _
      refine own_back (fun t k => XS.astore X1375.here hx rfl (hb hby at_76) rfl rfl (l' := #[.val (.int p1), .val (.int p2), .val (.int p3), .val (.int p4), .val (.int p5), .val (.int p6), .val (.int ww), .val (.int mo), .val (.int x8), .unset, .val (.int vv), .val (.ref ar), .unset]) rfl k) ?_
      show OwnGo p e below (T1375.setTop (mkF m 78 #[.val (.int p1), .val (.int p2), .val (.int p3), .val (.int p4), .val (.int p5), .val (.int p6), .val (.int ww), .val (.int mo), .val (.int x8), .unset, .val (.int vv), .val (.ref ar), .unset] [])) _
      refine own_back (fun t k => XS.iload X1375.here hx rfl (hb hby at_78) rfl k) ?_
      show OwnGo p e below (T1375.setTop (mkF m 80 #[.val (.int p1), .val (.int p2), .val (.int p3), .val (.int p4), .val (.int p5), .val (.int p6), .val (.int ww), .val (.int mo), .val (.int x8), .unset, .val (.int vv), .val (.ref ar), .unset] [(.int mo)])) _
      refine own_back (fun t k => XS.iconst X1375.here hx rfl (hb hby at_80) k) ?_
      show OwnGo p e below (T1375.setTop (mkF m 81 #[.val (.int p1), .val (.int p2), .val (.int p3), .val (.int p4), .val (.int p5), .val (.int p6), .val (.int ww), .val (.int mo), .val (.int x8), .unset, .val (.int vv), .val (.ref ar), .unset] [(.int (1 : Int32)), (.int mo)])) _
      have tl101_1383 : ∀ (Tj1383 : State) (hj1383 : Heap) (ar2 : Addr) (kr2 : ClassId) (ds : List Int32) (s12 : Slot), OwnSt p l e room_1 s m #[(.int p1), (.int p2), (.int p3), (.int p4), (.int p5), (.int p6)] below meth c Z own_EL "com/example/indexwright/indexwright/marketdata/KindOfPinLaw" n0 h0 [] Tj1383 hj1383 1 19 → (Arv Z hj1383 ar2 kr2 .char (Int32.ofNat ds.length) (ds.map Value.int) (.int 0)) → ((∀ y ∈ ds, OwnCh y)) → (1 ≤ ds.length) → (ds.length ≤ 19) → OwnGo p e below (Tj1383.setTop (mkF m 101 #[.val (.int p1), .val (.int p2), .val (.int p3), .val (.int p4), .val (.int p5), .val (.int p6), .val (.int ww), .val (.int mo), .val (.int x8), .unset, .val (.int vv), .val (.ref ar2), s12] [])) (OwnEndW Z own_EL s (fun v h L => v = some (.int 1) ∧ Fr n0 L) room_1.cells room_1.slots) := by
        intro Tj1383 hj1383 ar2 kr2 ds s12 HS1383 hs1383_0 hds hd1 hd2
        obtain ⟨vj1383, kj1383, Lj1383, Xj1383, ej1383, hSj1383, hkj1383, hZj1383, hownj1383, CRj1383, Oj1383, KPj1383, Zj1383, Nj1383⟩ := HS1383
        show OwnGo p e below (Tj1383.setTop (mkF m 101 #[.val (.int p1), .val (.int p2), .val (.int p3), .val (.int p4), .val (.int p5), .val (.int p6), .val (.int ww), .val (.int mo), .val (.int x8), .unset, .val (.int vv), .val (.ref ar2), s12] [])) _
        obtain ⟨T1384, h1384, X1384, e1384, E1384, A1384, D1384, -, st1384⟩ := newO Xj1383 hx hZj1383 hownj1383 (hw _ (List.mem_of_getElem? (i := 6) rfl)) (hw _ (List.mem_of_getElem? (i := 7) rfl)) (hw _ (List.mem_of_getElem? (i := 8) rfl)) ej1383 (g := (mkF m 101 #[.val (.int p1), .val (.int p2), .val (.int p3), .val (.int p4), .val (.int p5), .val (.int p6), .val (.int ww), .val (.int mo), .val (.int x8), .unset, .val (.int vv), .val (.ref ar2), s12] [])) rfl (hb hby at_101) (Nat.le_of_ble_eq_true rfl) (Nat.le_of_ble_eq_true rfl)
        obtain ⟨b1384, g1384⟩ : ∃ z, z = hj1383.size := ⟨_, rfl⟩
        have ge1385 : n0 ≤ b1384 := Nat.le_trans Zj1383 (Nat.le_of_eq g1384.symm)
        have sz1386 : h0.size ≤ b1384 := Nat.le_trans KPj1383.1 (Nat.le_of_eq g1384.symm)
        rw [← g1384] at A1384 D1384 st1384
        have O1387 := Oj1383.ext E1384
        have KP1388 := KPj1383.ext E1384
        have Zs1389 := Nat.le_trans Zj1383 E1384.1
        have CR1390 := CRj1383.trans (CHr.ext E1384 CRj1383.1)
        have hk1391 := Nat.le_trans hkj1383 E1384.1
        have f1392 := hs1383_0.ext E1384
        have F1393 : Fld Z h1384 b1384 "java/lang/String" "coder" "B" (.int (0 : Int32)) := D1384 (Or.inr (hw _ (List.mem_of_getElem? (i := 32) rfl))) (ty := .byte) (by decide)
        have F1394 : Fld Z h1384 b1384 "java/lang/String" "value" "[B" .null := D1384 (Or.inr (hw _ (List.mem_of_getElem? (i := 34) rfl))) (ty := (.array .byte)) (by decide)
        have sf1395 := Safe.ext E1384 CRj1383.1 (Safe.new (Nat.le_of_eq g1384.symm))
        refine own_back st1384 ?_
        show OwnGo p e below (T1384.setTop (mkF m 104 #[.val (.int p1), .val (.int p2), .val (.int p3), .val (.int p4), .val (.int p5), .val (.int p6), .val (.int ww), .val (.int mo), .val (.int x8), .unset, .val (.int vv), .val (.ref ar2), s12] [(.ref b1384)])) _
        refine own_back (fun t k => XS.dup X1384.here hx rfl (hb hby at_104) rfl rfl k) ?_
        show OwnGo p e below (T1384.setTop (mkF m 105 #[.val (.int p1), .val (.int p2), .val (.int p3), .val (.int p4), .val (.int p5), .val (.int p6), .val (.int ww), .val (.int mo), .val (.int x8), .unset, .val (.int vv), .val (.ref ar2), s12] [(.ref b1384), (.ref b1384)])) _
        refine own_back (fun t k => XS.aload X1384.here hx rfl (hb hby at_105) rfl rfl k) ?_
        show OwnGo p e below (T1384.setTop (mkF m 107 #[.val (.int p1), .val (.int p2), .val (.int p3), .val (.int p4), .val (.int p5), .val (.int p6), .val (.int ww), .val (.int mo), .val (.int x8), .unset, .val (.int vv), .val (.ref ar2), s12] [(.ref ar2), (.ref b1384), (.ref b1384)])) _
        obtain ⟨_, _, ⟨T1396, L1396, k1396, n1396⟩, -, X1396, ⟨Lc1396, hQ1396, l1396, y1396, z1396⟩, st1396⟩ := X1384.specialBack hx (y := (⟨"java/lang/String", "<init>", "([C)V"⟩ : MethodName)) rfl hownj1383 (mvT hZj1383 (hw _ (List.mem_of_getElem? (i := 9) rfl))) (mvT hZj1383 (hw _ (List.mem_of_getElem? (i := 10) rfl))) (mvT hZj1383 (hw _ (List.mem_of_getElem? (i := 11) rfl))) (by decide) (StrChars.Road.backV (W := 1) hZj1383 (own_wV hw) (kI := 4) (hw _ (List.mem_of_getElem? (i := 7) rfl)) (cs := ds) (bs := ds.map (fun c => c.toInt8.toInt32)) (n := ds.length) ge1385 Zs1389 A1384 F1394 F1393 f1392 (SC.ext O1387.2) hcz rfl rfl (by omega) (by omega) hds rfl (by decide) (by decide)) (g := (mkF m 107 #[.val (.int p1), .val (.int p2), .val (.int p3), .val (.int p4), .val (.int p5), .val (.int p6), .val (.int ww), .val (.int mo), .val (.int x8), .unset, .val (.int vv), .val (.ref ar2), s12] [(.ref ar2), (.ref b1384), (.ref b1384)])) rfl (by rw [hml]; rfl) (Steps.refl _) (a := b1384) (argsL := [(.ref ar2)]) (rest := [(.ref b1384)]) (lenOf lw_pd3 rfl) rfl (by show 2 * 0 + _ ≤ _; exact Nat.le_of_eq rfl) (hb hby at_107) (fun _ _ => ⟨rfl, e1384, Nat.le_of_ble_eq_true rfl, Nat.le_trans (Nat.add_le_add_left hd2 _) (Nat.le_of_ble_eq_true rfl)⟩)
        dsimp only [Pt.U, Pt.locs, Pt.cells, Pt.slots] at X1396 l1396 y1396 z1396 st1396 hQ1396
        subst l1396 y1396 z1396
        obtain ⟨rfl, N1396q, K1396, EX1396, C1396, t1396, kb1396, gt1396, zt1396, nt1396, FV1396, AV1396⟩ := hQ1396
        refine own_seq st1396 ?_
        have N1396 := Fr.app Nj1383 N1396q
        have Xm1396 := own_stMono X1396 (Nat.le_refl _) (Nat.add_le_add_left hd2 _)
        have O1397 := O1387.keep K1396 (allS ge1385 all0)
        have KP1398 := KP1388.trans K1396 (allS (Or.inr sz1386) all0)
        have Zs1399 := Nat.le_trans Zs1389 K1396.1
        have CR1400 := CR1390.trans (CHr.keep K1396 (sfS sf1395 sf0) CR1390.1)
        have hk1401 := Nat.le_trans hk1391 K1396.1
        have f1402 := f1392.keep K1396 (ninS (Nat.ne_of_lt (Nat.lt_of_lt_of_le hs1383_0.lt (Nat.le_of_eq g1384.symm))) nin0)
        have f1403 := A1384.keep K1396
        have f1404 := (Safe.keep K1396 (sfS sf1395 sf0) CR1390.1 sf1395)
        have B1405 : OwnStr Z T1396.heap b1384 (ds.map (fun c => c.toInt8.toInt32)) := ⟨t1396, kb1396, EX1396, C1396, FV1396, by rw [List.length_map]; exact AV1396, by rw [List.length_map]; omega⟩
        show OwnGo p e below (T1396.setTop (mkF m 110 #[.val (.int p1), .val (.int p2), .val (.int p3), .val (.int p4), .val (.int p5), .val (.int p6), .val (.int ww), .val (.int mo), .val (.int x8), .unset, .val (.int vv), .val (.ref ar2), s12] [(.ref b1384)])) _
        refine own_back (fun t k => XS.astore Xm1396.here hx rfl (hb hby at_110) rfl rfl (l' := #[.val (.int p1), .val (.int p2), .val (.int p3), .val (.int p4), .val (.int p5), .val (.int p6), .val (.int ww), .val (.int mo), .val (.int x8), .val (.ref b1384), .val (.int vv), .val (.ref ar2), s12]) rfl k) ?_
        show OwnGo p e below (T1396.setTop (mkF m 112 #[.val (.int p1), .val (.int p2), .val (.int p3), .val (.int p4), .val (.int p5), .val (.int p6), .val (.int ww), .val (.int mo), .val (.int x8), .val (.ref b1384), .val (.int vv), .val (.ref ar2), s12] [])) _
        refine own_back (fun t k => XS.aload Xm1396.here hx rfl (hb hby at_112) rfl rfl k) ?_
        show OwnGo p e below (T1396.setTop (mkF m 114 #[.val (.int p1), .val (.int p2), .val (.int p3), .val (.int p4), .val (.int p5), .val (.int p6), .val (.int ww), .val (.int mo), .val (.int x8), .val (.ref b1384), .val (.int vv), .val (.ref ar2), s12] [(.ref b1384)])) _
        by_cases hS : ([115, 112, 108, 105, 116] : List Int32) = (ds.map (fun c => c.toInt8.toInt32))
        · obtain ⟨_, _, ⟨T1406, L1406, k1406, n1406⟩, -, X1406, ⟨Lc1406, hQ1406, l1406, y1406, z1406⟩, st1406⟩ := Jvm.LawKit.callS Xm1396 hx (y := (⟨"com/example/indexwright/indexwright/marketdata/ShareAdjustment$Kind", "of", "(Ljava/lang/String;)Lcom/example/indexwright/indexwright/marketdata/ShareAdjustment$Kind;"⟩ : MethodName)) hownj1383 (mvT hZj1383 (hw _ (List.mem_of_getElem? (i := 35) rfl))) (mvT hZj1383 (hw _ (List.mem_of_getElem? (i := 36) rfl))) (mvT hZj1383 (hw _ (List.mem_of_getElem? (i := 37) rfl))) (mvT hZj1383 (hw _ (List.mem_of_getElem? (i := 38) rfl))) (by decide) (own_backN (W := 0) (rm_of l Z a0 hw [] b1384 (ds.map (fun c => c.toInt8.toInt32)) wS wD wR wV kV kS kD kR cz T1396.heap n0 Zs1399 O1397 B1405 SV AV EV FV FS FD FR BS BD BR SC hcz) hZj1383 (hw _ (List.mem_of_getElem? (i := 38) rfl)) (hw _ (List.mem_of_getElem? (i := 37) rfl)) (by decide) (by decide)) (g := (mkF m 114 #[.val (.int p1), .val (.int p2), .val (.int p3), .val (.int p4), .val (.int p5), .val (.int p6), .val (.int ww), .val (.int mo), .val (.int x8), .val (.ref b1384), .val (.int vv), .val (.ref ar2), s12] [(.ref b1384)])) rfl (by rw [hml]; rfl) (argsL := [(.ref b1384)]) (rest := []) (lenOf lw_pd1 rfl) rfl (by show 2 * 0 + _ ≤ _; exact Nat.le_of_eq rfl) (hb hby at_114) (fun _ _ => ⟨rfl, rfl, Nat.le_of_ble_eq_true rfl, Nat.le_of_ble_eq_true rfl⟩)
          dsimp only [Pt.U, Pt.locs, Pt.cells, Pt.slots] at X1406 l1406 y1406 z1406 st1406 hQ1406
          subst l1406 y1406 z1406
          rw [if_pos hS] at hQ1406
          obtain ⟨rfl, N1406q, E1406⟩ := hQ1406
          refine own_back st1406 ?_
          have N1406 := Fr.app N1396 N1406q
          have O1407 := O1397.ext E1406
          have KP1408 := KP1398.ext E1406
          have Zs1409 := Nat.le_trans Zs1399 E1406.1
          have CR1410 := CR1400.trans (CHr.ext E1406 CR1400.1)
          have hk1411 := Nat.le_trans hk1401 E1406.1
          have f1412 := f1402.ext E1406
          have f1413 := f1403.ext E1406
          have f1414 := B1405.ext E1406
          show OwnGo p e below (T1406.setTop (mkF m 117 #[.val (.int p1), .val (.int p2), .val (.int p3), .val (.int p4), .val (.int p5), .val (.int p6), .val (.int ww), .val (.int mo), .val (.int x8), .val (.ref b1384), .val (.int vv), .val (.ref ar2), s12] [(.ref wS)])) _
          refine own_back (fun t k => XS.astore X1406.here hx rfl (hb hby at_117) rfl rfl (l' := #[.val (.int p1), .val (.int p2), .val (.int p3), .val (.int p4), .val (.int p5), .val (.int p6), .val (.int ww), .val (.int mo), .val (.int x8), .val (.ref b1384), .val (.ref wS), .val (.ref ar2), s12]) rfl k) ?_
          show OwnGo p e below (T1406.setTop (mkF m 119 #[.val (.int p1), .val (.int p2), .val (.int p3), .val (.int p4), .val (.int p5), .val (.int p6), .val (.int ww), .val (.int mo), .val (.int x8), .val (.ref b1384), .val (.ref wS), .val (.ref ar2), s12] [])) _
          refine own_back (fun t k => XS.aload X1406.here hx rfl (hb hby at_119) rfl rfl k) ?_
          show OwnGo p e below (T1406.setTop (mkF m 121 #[.val (.int p1), .val (.int p2), .val (.int p3), .val (.int p4), .val (.int p5), .val (.int p6), .val (.int ww), .val (.int mo), .val (.int x8), .val (.ref b1384), .val (.ref wS), .val (.ref ar2), s12] [(.ref wS)])) _
          refine own_back (fun t k => XS.aload X1406.here hx rfl (hb hby at_121) rfl rfl k) ?_
          show OwnGo p e below (T1406.setTop (mkF m 123 #[.val (.int p1), .val (.int p2), .val (.int p3), .val (.int p4), .val (.int p5), .val (.int p6), .val (.int ww), .val (.int mo), .val (.int x8), .val (.ref b1384), .val (.ref wS), .val (.ref ar2), s12] [(.ref b1384), (.ref wS)])) _
          obtain ⟨_, _, ⟨T1415, L1415, k1415, n1415⟩, -, X1415, hSn1415, hgr1415, ⟨Lc1415, hQ1415, l1415, y1415, z1415, CRn1415⟩, st1415⟩ := callSS X1406 hx (y := (⟨"com/example/indexwright/indexwright/marketdata/KindOfPinLaw", "expected", "(Ljava/lang/String;)Lcom/example/indexwright/indexwright/marketdata/ShareAdjustment$Kind;"⟩ : MethodName)) hownj1383 (mvT hZj1383 (hw _ (List.mem_of_getElem? (i := 69) rfl))) (mvT hZj1383 (hw _ (List.mem_of_getElem? (i := 70) rfl))) (mvT hZj1383 (hw _ (List.mem_of_getElem? (i := 3) rfl))) (mvT hZj1383 (hw _ (List.mem_of_getElem? (i := 71) rfl))) (by decide) (own_backH (W := 1) (rm_ex l Z a0 hw [] b1384 (ds.map (fun c => c.toInt8.toInt32)) wS wD wR cz T1406.heap n0 Zs1409 O1407 f1414 SS SD SR SC hcz) hZj1383 (hw _ (List.mem_of_getElem? (i := 71) rfl)) (hw _ (List.mem_of_getElem? (i := 3) rfl)) (by decide) (by decide) hEL CR1410.1 sf0 all0) (g := (mkF m 123 #[.val (.int p1), .val (.int p2), .val (.int p3), .val (.int p4), .val (.int p5), .val (.int p6), .val (.int ww), .val (.int mo), .val (.int x8), .val (.ref b1384), .val (.ref wS), .val (.ref ar2), s12] [(.ref b1384), (.ref wS)])) rfl (by rw [hml]; rfl) (argsL := [(.ref b1384)]) (rest := [(.ref wS)]) (lenOf lw_pd1 rfl) rfl (by show 2 * 0 + _ ≤ _; exact Nat.le_of_eq rfl) (hb hby at_123) (fun _ _ => ⟨rfl, rfl, Nat.le_of_ble_eq_true rfl, Nat.le_of_ble_eq_true rfl⟩)
          dsimp only [Pt.U, Pt.locs, Pt.cells, Pt.slots] at X1415 l1415 y1415 z1415 st1415 hQ1415 hSn1415 hgr1415 CRn1415
          subst l1415 y1415 z1415
          obtain ⟨Xr1415, hSr1415, hZr1415, hownr1415⟩ := rebS hSj1383 (own_hle rfl hk1411) X1415 hSn1415 hgr1415 hZj1383 hownj1383
          rw [if_pos hS.symm] at hQ1415
          obtain ⟨rfl, N1415q, E1415⟩ := hQ1415
          refine own_seq st1415 ?_
          have N1415 := Fr.app N1406 N1415q
          have O1416 := O1407.ext E1415
          have KP1417 := KP1408.ext E1415
          have Zs1418 := Nat.le_trans Zs1409 E1415.1
          have CR1419 := CR1410.trans CRn1415
          have f1420 := f1412.ext E1415
          have f1421 := f1413.ext E1415
          have f1422 := f1414.ext E1415
          show OwnGo p e below (T1415.setTop (mkF m 126 #[.val (.int p1), .val (.int p2), .val (.int p3), .val (.int p4), .val (.int p5), .val (.int p6), .val (.int ww), .val (.int mo), .val (.int x8), .val (.ref b1384), .val (.ref wS), .val (.ref ar2), s12] [(.ref wS), (.ref wS)])) _
          refine own_back (fun t k => Jvm.RoadKit.acmp (g := (mkF m 126 #[.val (.int p1), .val (.int p2), .val (.int p3), .val (.int p4), .val (.int p5), .val (.int p6), .val (.int ww), .val (.int mo), .val (.int x8), .val (.ref b1384), .val (.ref wS), .val (.ref ar2), s12] [(.ref wS), (.ref wS)])) Xr1415 hx rfl rfl rfl (pc0 := 126) (pc' := 129) (same := true) rfl (hb hby at_126) rfl (decide_eq_true rfl) (by decide) (by decide) k) ?_
          show OwnGo p e below (T1415.setTop (mkF m 129 #[.val (.int p1), .val (.int p2), .val (.int p3), .val (.int p4), .val (.int p5), .val (.int p6), .val (.int ww), .val (.int mo), .val (.int x8), .val (.ref b1384), .val (.ref wS), .val (.ref ar2), s12] [])) _
          refine own_back (fun t k => XS.iconst Xr1415.here hx rfl (hb hby at_129) k) ?_
          show OwnGo p e below (T1415.setTop (mkF m 130 #[.val (.int p1), .val (.int p2), .val (.int p3), .val (.int p4), .val (.int p5), .val (.int p6), .val (.int ww), .val (.int mo), .val (.int x8), .val (.ref b1384), .val (.ref wS), .val (.ref ar2), s12] [(.int (1 : Int32))])) _
          refine own_back (fun t k => XS.goto Xr1415.here hx rfl (pc0 := 130) (pc' := 134) rfl (hb hby at_130) (by decide) (by decide) k) ?_
          show OwnGo p e below (T1415.setTop (mkF m 134 #[.val (.int p1), .val (.int p2), .val (.int p3), .val (.int p4), .val (.int p5), .val (.int p6), .val (.int ww), .val (.int mo), .val (.int x8), .val (.ref b1384), .val (.ref wS), .val (.ref ar2), s12] [(.int (1 : Int32))])) _
          refine own_retNW Xr1415 hx Bd.notSynchronized (t := .boolean) (z := (1 : Int32)) Bd.returns (by simp) rfl hSr1415 (Nat.le_refl _) hZr1415 hEL (hh ▸ CR1419) (hb hby at_134) rfl (Nat.le_of_ble_eq_true rfl) (Nat.le_of_ble_eq_true rfl) ?_
          exact ⟨rfl, N1415⟩
        · by_cases hD : ([115, 116, 111, 99, 107, 45, 100, 105, 115, 116, 114, 105, 98, 117, 116, 105, 111, 110] : List Int32) = (ds.map (fun c => c.toInt8.toInt32))
          · obtain ⟨_, _, ⟨T1423, L1423, k1423, n1423⟩, -, X1423, ⟨Lc1423, hQ1423, l1423, y1423, z1423⟩, st1423⟩ := Jvm.LawKit.callS Xm1396 hx (y := (⟨"com/example/indexwright/indexwright/marketdata/ShareAdjustment$Kind", "of", "(Ljava/lang/String;)Lcom/example/indexwright/indexwright/marketdata/ShareAdjustment$Kind;"⟩ : MethodName)) hownj1383 (mvT hZj1383 (hw _ (List.mem_of_getElem? (i := 35) rfl))) (mvT hZj1383 (hw _ (List.mem_of_getElem? (i := 36) rfl))) (mvT hZj1383 (hw _ (List.mem_of_getElem? (i := 37) rfl))) (mvT hZj1383 (hw _ (List.mem_of_getElem? (i := 38) rfl))) (by decide) (own_backN (W := 0) (rm_of l Z a0 hw [] b1384 (ds.map (fun c => c.toInt8.toInt32)) wS wD wR wV kV kS kD kR cz T1396.heap n0 Zs1399 O1397 B1405 SV AV EV FV FS FD FR BS BD BR SC hcz) hZj1383 (hw _ (List.mem_of_getElem? (i := 38) rfl)) (hw _ (List.mem_of_getElem? (i := 37) rfl)) (by decide) (by decide)) (g := (mkF m 114 #[.val (.int p1), .val (.int p2), .val (.int p3), .val (.int p4), .val (.int p5), .val (.int p6), .val (.int ww), .val (.int mo), .val (.int x8), .val (.ref b1384), .val (.int vv), .val (.ref ar2), s12] [(.ref b1384)])) rfl (by rw [hml]; rfl) (argsL := [(.ref b1384)]) (rest := []) (lenOf lw_pd1 rfl) rfl (by show 2 * 0 + _ ≤ _; exact Nat.le_of_eq rfl) (hb hby at_114) (fun _ _ => ⟨rfl, rfl, Nat.le_of_ble_eq_true rfl, Nat.le_of_ble_eq_true rfl⟩)
            dsimp only [Pt.U, Pt.locs, Pt.cells, Pt.slots] at X1423 l1423 y1423 z1423 st1423 hQ1423
            subst l1423 y1423 z1423
            rw [if_neg hS, if_pos hD] at hQ1423
            obtain ⟨rfl, N1423q, E1423⟩ := hQ1423
            refine own_back st1423 ?_
            have N1423 := Fr.app N1396 N1423q
            have O1424 := O1397.ext E1423
            have KP1425 := KP1398.ext E1423
            have Zs1426 := Nat.le_trans Zs1399 E1423.1
            have CR1427 := CR1400.trans (CHr.ext E1423 CR1400.1)
            have hk1428 := Nat.le_trans hk1401 E1423.1
            have f1429 := f1402.ext E1423
            have f1430 := f1403.ext E1423
            have f1431 := B1405.ext E1423
            show OwnGo p e below (T1423.setTop (mkF m 117 #[.val (.int p1), .val (.int p2), .val (.int p3), .val (.int p4), .val (.int p5), .val (.int p6), .val (.int ww), .val (.int mo), .val (.int x8), .val (.ref b1384), .val (.int vv), .val (.ref ar2), s12] [(.ref wD)])) _
            refine own_back (fun t k => XS.astore X1423.here hx rfl (hb hby at_117) rfl rfl (l' := #[.val (.int p1), .val (.int p2), .val (.int p3), .val (.int p4), .val (.int p5), .val (.int p6), .val (.int ww), .val (.int mo), .val (.int x8), .val (.ref b1384), .val (.ref wD), .val (.ref ar2), s12]) rfl k) ?_
            show OwnGo p e below (T1423.setTop (mkF m 119 #[.val (.int p1), .val (.int p2), .val (.int p3), .val (.int p4), .val (.int p5), .val (.int p6), .val (.int ww), .val (.int mo), .val (.int x8), .val (.ref b1384), .val (.ref wD), .val (.ref ar2), s12] [])) _
            refine own_back (fun t k => XS.aload X1423.here hx rfl (hb hby at_119) rfl rfl k) ?_
            show OwnGo p e below (T1423.setTop (mkF m 121 #[.val (.int p1), .val (.int p2), .val (.int p3), .val (.int p4), .val (.int p5), .val (.int p6), .val (.int ww), .val (.int mo), .val (.int x8), .val (.ref b1384), .val (.ref wD), .val (.ref ar2), s12] [(.ref wD)])) _
            refine own_back (fun t k => XS.aload X1423.here hx rfl (hb hby at_121) rfl rfl k) ?_
            show OwnGo p e below (T1423.setTop (mkF m 123 #[.val (.int p1), .val (.int p2), .val (.int p3), .val (.int p4), .val (.int p5), .val (.int p6), .val (.int ww), .val (.int mo), .val (.int x8), .val (.ref b1384), .val (.ref wD), .val (.ref ar2), s12] [(.ref b1384), (.ref wD)])) _
            obtain ⟨_, _, ⟨T1432, L1432, k1432, n1432⟩, -, X1432, hSn1432, hgr1432, ⟨Lc1432, hQ1432, l1432, y1432, z1432, CRn1432⟩, st1432⟩ := callSS X1423 hx (y := (⟨"com/example/indexwright/indexwright/marketdata/KindOfPinLaw", "expected", "(Ljava/lang/String;)Lcom/example/indexwright/indexwright/marketdata/ShareAdjustment$Kind;"⟩ : MethodName)) hownj1383 (mvT hZj1383 (hw _ (List.mem_of_getElem? (i := 69) rfl))) (mvT hZj1383 (hw _ (List.mem_of_getElem? (i := 70) rfl))) (mvT hZj1383 (hw _ (List.mem_of_getElem? (i := 3) rfl))) (mvT hZj1383 (hw _ (List.mem_of_getElem? (i := 71) rfl))) (by decide) (own_backH (W := 1) (rm_ex l Z a0 hw [] b1384 (ds.map (fun c => c.toInt8.toInt32)) wS wD wR cz T1423.heap n0 Zs1426 O1424 f1431 SS SD SR SC hcz) hZj1383 (hw _ (List.mem_of_getElem? (i := 71) rfl)) (hw _ (List.mem_of_getElem? (i := 3) rfl)) (by decide) (by decide) hEL CR1427.1 sf0 all0) (g := (mkF m 123 #[.val (.int p1), .val (.int p2), .val (.int p3), .val (.int p4), .val (.int p5), .val (.int p6), .val (.int ww), .val (.int mo), .val (.int x8), .val (.ref b1384), .val (.ref wD), .val (.ref ar2), s12] [(.ref b1384), (.ref wD)])) rfl (by rw [hml]; rfl) (argsL := [(.ref b1384)]) (rest := [(.ref wD)]) (lenOf lw_pd1 rfl) rfl (by show 2 * 0 + _ ≤ _; exact Nat.le_of_eq rfl) (hb hby at_123) (fun _ _ => ⟨rfl, rfl, Nat.le_of_ble_eq_true rfl, Nat.le_of_ble_eq_true rfl⟩)
            dsimp only [Pt.U, Pt.locs, Pt.cells, Pt.slots] at X1432 l1432 y1432 z1432 st1432 hQ1432 hSn1432 hgr1432 CRn1432
            subst l1432 y1432 z1432
            obtain ⟨Xr1432, hSr1432, hZr1432, hownr1432⟩ := rebS hSj1383 (own_hle rfl hk1428) X1432 hSn1432 hgr1432 hZj1383 hownj1383
            rw [if_neg (Ne.symm hS), if_pos hD.symm] at hQ1432
            obtain ⟨rfl, N1432q, E1432⟩ := hQ1432
            refine own_seq st1432 ?_
            have N1432 := Fr.app N1423 N1432q
            have O1433 := O1424.ext E1432
            have KP1434 := KP1425.ext E1432
            have Zs1435 := Nat.le_trans Zs1426 E1432.1
            have CR1436 := CR1427.trans CRn1432
            have f1437 := f1429.ext E1432
            have f1438 := f1430.ext E1432
            have f1439 := f1431.ext E1432
            show OwnGo p e below (T1432.setTop (mkF m 126 #[.val (.int p1), .val (.int p2), .val (.int p3), .val (.int p4), .val (.int p5), .val (.int p6), .val (.int ww), .val (.int mo), .val (.int x8), .val (.ref b1384), .val (.ref wD), .val (.ref ar2), s12] [(.ref wD), (.ref wD)])) _
            refine own_back (fun t k => Jvm.RoadKit.acmp (g := (mkF m 126 #[.val (.int p1), .val (.int p2), .val (.int p3), .val (.int p4), .val (.int p5), .val (.int p6), .val (.int ww), .val (.int mo), .val (.int x8), .val (.ref b1384), .val (.ref wD), .val (.ref ar2), s12] [(.ref wD), (.ref wD)])) Xr1432 hx rfl rfl rfl (pc0 := 126) (pc' := 129) (same := true) rfl (hb hby at_126) rfl (decide_eq_true rfl) (by decide) (by decide) k) ?_
            show OwnGo p e below (T1432.setTop (mkF m 129 #[.val (.int p1), .val (.int p2), .val (.int p3), .val (.int p4), .val (.int p5), .val (.int p6), .val (.int ww), .val (.int mo), .val (.int x8), .val (.ref b1384), .val (.ref wD), .val (.ref ar2), s12] [])) _
            refine own_back (fun t k => XS.iconst Xr1432.here hx rfl (hb hby at_129) k) ?_
            show OwnGo p e below (T1432.setTop (mkF m 130 #[.val (.int p1), .val (.int p2), .val (.int p3), .val (.int p4), .val (.int p5), .val (.int p6), .val (.int ww), .val (.int mo), .val (.int x8), .val (.ref b1384), .val (.ref wD), .val (.ref ar2), s12] [(.int (1 : Int32))])) _
            refine own_back (fun t k => XS.goto Xr1432.here hx rfl (pc0 := 130) (pc' := 134) rfl (hb hby at_130) (by decide) (by decide) k) ?_
            show OwnGo p e below (T1432.setTop (mkF m 134 #[.val (.int p1), .val (.int p2), .val (.int p3), .val (.int p4), .val (.int p5), .val (.int p6), .val (.int ww), .val (.int mo), .val (.int x8), .val (.ref b1384), .val (.ref wD), .val (.ref ar2), s12] [(.int (1 : Int32))])) _
            refine own_retNW Xr1432 hx Bd.notSynchronized (t := .boolean) (z := (1 : Int32)) Bd.returns (by simp) rfl hSr1432 (Nat.le_refl _) hZr1432 hEL (hh ▸ CR1436) (hb hby at_134) rfl (Nat.le_of_ble_eq_true rfl) (Nat.le_of_ble_eq_true rfl) ?_
            exact ⟨rfl, N1432⟩
          · by_cases hR : ([114, 105, 103, 104, 116, 115, 45, 105, 115, 115, 117, 101] : List Int32) = (ds.map (fun c => c.toInt8.toInt32))
            · obtain ⟨_, _, ⟨T1440, L1440, k1440, n1440⟩, -, X1440, ⟨Lc1440, hQ1440, l1440, y1440, z1440⟩, st1440⟩ := Jvm.LawKit.callS Xm1396 hx (y := (⟨"com/example/indexwright/indexwright/marketdata/ShareAdjustment$Kind", "of", "(Ljava/lang/String;)Lcom/example/indexwright/indexwright/marketdata/ShareAdjustment$Kind;"⟩ : MethodName)) hownj1383 (mvT hZj1383 (hw _ (List.mem_of_getElem? (i := 35) rfl))) (mvT hZj1383 (hw _ (List.mem_of_getElem? (i := 36) rfl))) (mvT hZj1383 (hw _ (List.mem_of_getElem? (i := 37) rfl))) (mvT hZj1383 (hw _ (List.mem_of_getElem? (i := 38) rfl))) (by decide) (own_backN (W := 0) (rm_of l Z a0 hw [] b1384 (ds.map (fun c => c.toInt8.toInt32)) wS wD wR wV kV kS kD kR cz T1396.heap n0 Zs1399 O1397 B1405 SV AV EV FV FS FD FR BS BD BR SC hcz) hZj1383 (hw _ (List.mem_of_getElem? (i := 38) rfl)) (hw _ (List.mem_of_getElem? (i := 37) rfl)) (by decide) (by decide)) (g := (mkF m 114 #[.val (.int p1), .val (.int p2), .val (.int p3), .val (.int p4), .val (.int p5), .val (.int p6), .val (.int ww), .val (.int mo), .val (.int x8), .val (.ref b1384), .val (.int vv), .val (.ref ar2), s12] [(.ref b1384)])) rfl (by rw [hml]; rfl) (argsL := [(.ref b1384)]) (rest := []) (lenOf lw_pd1 rfl) rfl (by show 2 * 0 + _ ≤ _; exact Nat.le_of_eq rfl) (hb hby at_114) (fun _ _ => ⟨rfl, rfl, Nat.le_of_ble_eq_true rfl, Nat.le_of_ble_eq_true rfl⟩)
              dsimp only [Pt.U, Pt.locs, Pt.cells, Pt.slots] at X1440 l1440 y1440 z1440 st1440 hQ1440
              subst l1440 y1440 z1440
              rw [if_neg hS, if_neg hD, if_pos hR] at hQ1440
              obtain ⟨rfl, N1440q, E1440⟩ := hQ1440
              refine own_back st1440 ?_
              have N1440 := Fr.app N1396 N1440q
              have O1441 := O1397.ext E1440
              have KP1442 := KP1398.ext E1440
              have Zs1443 := Nat.le_trans Zs1399 E1440.1
              have CR1444 := CR1400.trans (CHr.ext E1440 CR1400.1)
              have hk1445 := Nat.le_trans hk1401 E1440.1
              have f1446 := f1402.ext E1440
              have f1447 := f1403.ext E1440
              have f1448 := B1405.ext E1440
              show OwnGo p e below (T1440.setTop (mkF m 117 #[.val (.int p1), .val (.int p2), .val (.int p3), .val (.int p4), .val (.int p5), .val (.int p6), .val (.int ww), .val (.int mo), .val (.int x8), .val (.ref b1384), .val (.int vv), .val (.ref ar2), s12] [(.ref wR)])) _
              refine own_back (fun t k => XS.astore X1440.here hx rfl (hb hby at_117) rfl rfl (l' := #[.val (.int p1), .val (.int p2), .val (.int p3), .val (.int p4), .val (.int p5), .val (.int p6), .val (.int ww), .val (.int mo), .val (.int x8), .val (.ref b1384), .val (.ref wR), .val (.ref ar2), s12]) rfl k) ?_
              show OwnGo p e below (T1440.setTop (mkF m 119 #[.val (.int p1), .val (.int p2), .val (.int p3), .val (.int p4), .val (.int p5), .val (.int p6), .val (.int ww), .val (.int mo), .val (.int x8), .val (.ref b1384), .val (.ref wR), .val (.ref ar2), s12] [])) _
              refine own_back (fun t k => XS.aload X1440.here hx rfl (hb hby at_119) rfl rfl k) ?_
              show OwnGo p e below (T1440.setTop (mkF m 121 #[.val (.int p1), .val (.int p2), .val (.int p3), .val (.int p4), .val (.int p5), .val (.int p6), .val (.int ww), .val (.int mo), .val (.int x8), .val (.ref b1384), .val (.ref wR), .val (.ref ar2), s12] [(.ref wR)])) _
              refine own_back (fun t k => XS.aload X1440.here hx rfl (hb hby at_121) rfl rfl k) ?_
              show OwnGo p e below (T1440.setTop (mkF m 123 #[.val (.int p1), .val (.int p2), .val (.int p3), .val (.int p4), .val (.int p5), .val (.int p6), .val (.int ww), .val (.int mo), .val (.int x8), .val (.ref b1384), .val (.ref wR), .val (.ref ar2), s12] [(.ref b1384), (.ref wR)])) _
              obtain ⟨_, _, ⟨T1449, L1449, k1449, n1449⟩, -, X1449, hSn1449, hgr1449, ⟨Lc1449, hQ1449, l1449, y1449, z1449, CRn1449⟩, st1449⟩ := callSS X1440 hx (y := (⟨"com/example/indexwright/indexwright/marketdata/KindOfPinLaw", "expected", "(Ljava/lang/String;)Lcom/example/indexwright/indexwright/marketdata/ShareAdjustment$Kind;"⟩ : MethodName)) hownj1383 (mvT hZj1383 (hw _ (List.mem_of_getElem? (i := 69) rfl))) (mvT hZj1383 (hw _ (List.mem_of_getElem? (i := 70) rfl))) (mvT hZj1383 (hw _ (List.mem_of_getElem? (i := 3) rfl))) (mvT hZj1383 (hw _ (List.mem_of_getElem? (i := 71) rfl))) (by decide) (own_backH (W := 1) (rm_ex l Z a0 hw [] b1384 (ds.map (fun c => c.toInt8.toInt32)) wS wD wR cz T1440.heap n0 Zs1443 O1441 f1448 SS SD SR SC hcz) hZj1383 (hw _ (List.mem_of_getElem? (i := 71) rfl)) (hw _ (List.mem_of_getElem? (i := 3) rfl)) (by decide) (by decide) hEL CR1444.1 sf0 all0) (g := (mkF m 123 #[.val (.int p1), .val (.int p2), .val (.int p3), .val (.int p4), .val (.int p5), .val (.int p6), .val (.int ww), .val (.int mo), .val (.int x8), .val (.ref b1384), .val (.ref wR), .val (.ref ar2), s12] [(.ref b1384), (.ref wR)])) rfl (by rw [hml]; rfl) (argsL := [(.ref b1384)]) (rest := [(.ref wR)]) (lenOf lw_pd1 rfl) rfl (by show 2 * 0 + _ ≤ _; exact Nat.le_of_eq rfl) (hb hby at_123) (fun _ _ => ⟨rfl, rfl, Nat.le_of_ble_eq_true rfl, Nat.le_of_ble_eq_true rfl⟩)
              dsimp only [Pt.U, Pt.locs, Pt.cells, Pt.slots] at X1449 l1449 y1449 z1449 st1449 hQ1449 hSn1449 hgr1449 CRn1449
              subst l1449 y1449 z1449
              obtain ⟨Xr1449, hSr1449, hZr1449, hownr1449⟩ := rebS hSj1383 (own_hle rfl hk1445) X1449 hSn1449 hgr1449 hZj1383 hownj1383
              rw [if_neg (Ne.symm hS), if_neg (Ne.symm hD), if_pos hR.symm] at hQ1449
              obtain ⟨rfl, N1449q, E1449⟩ := hQ1449
              refine own_seq st1449 ?_
              have N1449 := Fr.app N1440 N1449q
              have O1450 := O1441.ext E1449
              have KP1451 := KP1442.ext E1449
              have Zs1452 := Nat.le_trans Zs1443 E1449.1
              have CR1453 := CR1444.trans CRn1449
              have f1454 := f1446.ext E1449
              have f1455 := f1447.ext E1449
              have f1456 := f1448.ext E1449
              show OwnGo p e below (T1449.setTop (mkF m 126 #[.val (.int p1), .val (.int p2), .val (.int p3), .val (.int p4), .val (.int p5), .val (.int p6), .val (.int ww), .val (.int mo), .val (.int x8), .val (.ref b1384), .val (.ref wR), .val (.ref ar2), s12] [(.ref wR), (.ref wR)])) _
              refine own_back (fun t k => Jvm.RoadKit.acmp (g := (mkF m 126 #[.val (.int p1), .val (.int p2), .val (.int p3), .val (.int p4), .val (.int p5), .val (.int p6), .val (.int ww), .val (.int mo), .val (.int x8), .val (.ref b1384), .val (.ref wR), .val (.ref ar2), s12] [(.ref wR), (.ref wR)])) Xr1449 hx rfl rfl rfl (pc0 := 126) (pc' := 129) (same := true) rfl (hb hby at_126) rfl (decide_eq_true rfl) (by decide) (by decide) k) ?_
              show OwnGo p e below (T1449.setTop (mkF m 129 #[.val (.int p1), .val (.int p2), .val (.int p3), .val (.int p4), .val (.int p5), .val (.int p6), .val (.int ww), .val (.int mo), .val (.int x8), .val (.ref b1384), .val (.ref wR), .val (.ref ar2), s12] [])) _
              refine own_back (fun t k => XS.iconst Xr1449.here hx rfl (hb hby at_129) k) ?_
              show OwnGo p e below (T1449.setTop (mkF m 130 #[.val (.int p1), .val (.int p2), .val (.int p3), .val (.int p4), .val (.int p5), .val (.int p6), .val (.int ww), .val (.int mo), .val (.int x8), .val (.ref b1384), .val (.ref wR), .val (.ref ar2), s12] [(.int (1 : Int32))])) _
              refine own_back (fun t k => XS.goto Xr1449.here hx rfl (pc0 := 130) (pc' := 134) rfl (hb hby at_130) (by decide) (by decide) k) ?_
              show OwnGo p e below (T1449.setTop (mkF m 134 #[.val (.int p1), .val (.int p2), .val (.int p3), .val (.int p4), .val (.int p5), .val (.int p6), .val (.int ww), .val (.int mo), .val (.int x8), .val (.ref b1384), .val (.ref wR), .val (.ref ar2), s12] [(.int (1 : Int32))])) _
              refine own_retNW Xr1449 hx Bd.notSynchronized (t := .boolean) (z := (1 : Int32)) Bd.returns (by simp) rfl hSr1449 (Nat.le_refl _) hZr1449 hEL (hh ▸ CR1453) (hb hby at_134) rfl (Nat.le_of_ble_eq_true rfl) (Nat.le_of_ble_eq_true rfl) ?_
              exact ⟨rfl, N1449⟩
            · obtain ⟨_, _, ⟨T1457, L1457, k1457, n1457⟩, -, X1457, ⟨Lc1457, hQ1457, l1457, y1457, z1457⟩, st1457⟩ := Jvm.LawKit.callS Xm1396 hx (y := (⟨"com/example/indexwright/indexwright/marketdata/ShareAdjustment$Kind", "of", "(Ljava/lang/String;)Lcom/example/indexwright/indexwright/marketdata/ShareAdjustment$Kind;"⟩ : MethodName)) hownj1383 (mvT hZj1383 (hw _ (List.mem_of_getElem? (i := 35) rfl))) (mvT hZj1383 (hw _ (List.mem_of_getElem? (i := 36) rfl))) (mvT hZj1383 (hw _ (List.mem_of_getElem? (i := 37) rfl))) (mvT hZj1383 (hw _ (List.mem_of_getElem? (i := 38) rfl))) (by decide) (own_backN (W := 0) (rm_of l Z a0 hw [] b1384 (ds.map (fun c => c.toInt8.toInt32)) wS wD wR wV kV kS kD kR cz T1396.heap n0 Zs1399 O1397 B1405 SV AV EV FV FS FD FR BS BD BR SC hcz) hZj1383 (hw _ (List.mem_of_getElem? (i := 38) rfl)) (hw _ (List.mem_of_getElem? (i := 37) rfl)) (by decide) (by decide)) (g := (mkF m 114 #[.val (.int p1), .val (.int p2), .val (.int p3), .val (.int p4), .val (.int p5), .val (.int p6), .val (.int ww), .val (.int mo), .val (.int x8), .val (.ref b1384), .val (.int vv), .val (.ref ar2), s12] [(.ref b1384)])) rfl (by rw [hml]; rfl) (argsL := [(.ref b1384)]) (rest := []) (lenOf lw_pd1 rfl) rfl (by show 2 * 0 + _ ≤ _; exact Nat.le_of_eq rfl) (hb hby at_114) (fun _ _ => ⟨rfl, rfl, Nat.le_of_ble_eq_true rfl, Nat.le_of_ble_eq_true rfl⟩)
              dsimp only [Pt.U, Pt.locs, Pt.cells, Pt.slots] at X1457 l1457 y1457 z1457 st1457 hQ1457
              subst l1457 y1457 z1457
              rw [if_neg hS, if_neg hD, if_neg hR] at hQ1457
              obtain ⟨rfl, N1457q, E1457⟩ := hQ1457
              refine own_back st1457 ?_
              have N1457 := Fr.app N1396 N1457q
              have O1458 := O1397.ext E1457
              have KP1459 := KP1398.ext E1457
              have Zs1460 := Nat.le_trans Zs1399 E1457.1
              have CR1461 := CR1400.trans (CHr.ext E1457 CR1400.1)
              have hk1462 := Nat.le_trans hk1401 E1457.1
              have f1463 := f1402.ext E1457
              have f1464 := f1403.ext E1457
              have f1465 := B1405.ext E1457
              show OwnGo p e below (T1457.setTop (mkF m 117 #[.val (.int p1), .val (.int p2), .val (.int p3), .val (.int p4), .val (.int p5), .val (.int p6), .val (.int ww), .val (.int mo), .val (.int x8), .val (.ref b1384), .val (.int vv), .val (.ref ar2), s12] [.null])) _
              refine own_back (fun t k => XS.astore X1457.here hx rfl (hb hby at_117) rfl rfl (l' := #[.val (.int p1), .val (.int p2), .val (.int p3), .val (.int p4), .val (.int p5), .val (.int p6), .val (.int ww), .val (.int mo), .val (.int x8), .val (.ref b1384), .val .null, .val (.ref ar2), s12]) rfl k) ?_
              show OwnGo p e below (T1457.setTop (mkF m 119 #[.val (.int p1), .val (.int p2), .val (.int p3), .val (.int p4), .val (.int p5), .val (.int p6), .val (.int ww), .val (.int mo), .val (.int x8), .val (.ref b1384), .val .null, .val (.ref ar2), s12] [])) _
              refine own_back (fun t k => XS.aload X1457.here hx rfl (hb hby at_119) rfl rfl k) ?_
              show OwnGo p e below (T1457.setTop (mkF m 121 #[.val (.int p1), .val (.int p2), .val (.int p3), .val (.int p4), .val (.int p5), .val (.int p6), .val (.int ww), .val (.int mo), .val (.int x8), .val (.ref b1384), .val .null, .val (.ref ar2), s12] [.null])) _
              refine own_back (fun t k => XS.aload X1457.here hx rfl (hb hby at_121) rfl rfl k) ?_
              show OwnGo p e below (T1457.setTop (mkF m 123 #[.val (.int p1), .val (.int p2), .val (.int p3), .val (.int p4), .val (.int p5), .val (.int p6), .val (.int ww), .val (.int mo), .val (.int x8), .val (.ref b1384), .val .null, .val (.ref ar2), s12] [(.ref b1384), .null])) _
              obtain ⟨_, _, ⟨T1466, L1466, k1466, n1466⟩, -, X1466, hSn1466, hgr1466, ⟨Lc1466, hQ1466, l1466, y1466, z1466, CRn1466⟩, st1466⟩ := callSS X1457 hx (y := (⟨"com/example/indexwright/indexwright/marketdata/KindOfPinLaw", "expected", "(Ljava/lang/String;)Lcom/example/indexwright/indexwright/marketdata/ShareAdjustment$Kind;"⟩ : MethodName)) hownj1383 (mvT hZj1383 (hw _ (List.mem_of_getElem? (i := 69) rfl))) (mvT hZj1383 (hw _ (List.mem_of_getElem? (i := 70) rfl))) (mvT hZj1383 (hw _ (List.mem_of_getElem? (i := 3) rfl))) (mvT hZj1383 (hw _ (List.mem_of_getElem? (i := 71) rfl))) (by decide) (own_backH (W := 1) (rm_ex l Z a0 hw [] b1384 (ds.map (fun c => c.toInt8.toInt32)) wS wD wR cz T1457.heap n0 Zs1460 O1458 f1465 SS SD SR SC hcz) hZj1383 (hw _ (List.mem_of_getElem? (i := 71) rfl)) (hw _ (List.mem_of_getElem? (i := 3) rfl)) (by decide) (by decide) hEL CR1461.1 sf0 all0) (g := (mkF m 123 #[.val (.int p1), .val (.int p2), .val (.int p3), .val (.int p4), .val (.int p5), .val (.int p6), .val (.int ww), .val (.int mo), .val (.int x8), .val (.ref b1384), .val .null, .val (.ref ar2), s12] [(.ref b1384), .null])) rfl (by rw [hml]; rfl) (argsL := [(.ref b1384)]) (rest := [.null]) (lenOf lw_pd1 rfl) rfl (by show 2 * 0 + _ ≤ _; exact Nat.le_of_eq rfl) (hb hby at_123) (fun _ _ => ⟨rfl, rfl, Nat.le_of_ble_eq_true rfl, Nat.le_of_ble_eq_true rfl⟩)
              dsimp only [Pt.U, Pt.locs, Pt.cells, Pt.slots] at X1466 l1466 y1466 z1466 st1466 hQ1466 hSn1466 hgr1466 CRn1466
              subst l1466 y1466 z1466
              obtain ⟨Xr1466, hSr1466, hZr1466, hownr1466⟩ := rebS hSj1383 (own_hle rfl hk1462) X1466 hSn1466 hgr1466 hZj1383 hownj1383
              rw [if_neg (Ne.symm hS), if_neg (Ne.symm hD), if_neg (Ne.symm hR)] at hQ1466
              obtain ⟨rfl, N1466q, E1466⟩ := hQ1466
              refine own_seq st1466 ?_
              have N1466 := Fr.app N1457 N1466q
              have O1467 := O1458.ext E1466
              have KP1468 := KP1459.ext E1466
              have Zs1469 := Nat.le_trans Zs1460 E1466.1
              have CR1470 := CR1461.trans CRn1466
              have f1471 := f1463.ext E1466
              have f1472 := f1464.ext E1466
              have f1473 := f1465.ext E1466
              show OwnGo p e below (T1466.setTop (mkF m 126 #[.val (.int p1), .val (.int p2), .val (.int p3), .val (.int p4), .val (.int p5), .val (.int p6), .val (.int ww), .val (.int mo), .val (.int x8), .val (.ref b1384), .val .null, .val (.ref ar2), s12] [.null, .null])) _
              refine own_back (fun t k => Jvm.RoadKit.acmp (g := (mkF m 126 #[.val (.int p1), .val (.int p2), .val (.int p3), .val (.int p4), .val (.int p5), .val (.int p6), .val (.int ww), .val (.int mo), .val (.int x8), .val (.ref b1384), .val .null, .val (.ref ar2), s12] [.null, .null])) Xr1466 hx rfl rfl rfl (pc0 := 126) (pc' := 129) (same := true) rfl (hb hby at_126) rfl (decide_eq_true rfl) (by decide) (by decide) k) ?_
              show OwnGo p e below (T1466.setTop (mkF m 129 #[.val (.int p1), .val (.int p2), .val (.int p3), .val (.int p4), .val (.int p5), .val (.int p6), .val (.int ww), .val (.int mo), .val (.int x8), .val (.ref b1384), .val .null, .val (.ref ar2), s12] [])) _
              refine own_back (fun t k => XS.iconst Xr1466.here hx rfl (hb hby at_129) k) ?_
              show OwnGo p e below (T1466.setTop (mkF m 130 #[.val (.int p1), .val (.int p2), .val (.int p3), .val (.int p4), .val (.int p5), .val (.int p6), .val (.int ww), .val (.int mo), .val (.int x8), .val (.ref b1384), .val .null, .val (.ref ar2), s12] [(.int (1 : Int32))])) _
              refine own_back (fun t k => XS.goto Xr1466.here hx rfl (pc0 := 130) (pc' := 134) rfl (hb hby at_130) (by decide) (by decide) k) ?_
              show OwnGo p e below (T1466.setTop (mkF m 134 #[.val (.int p1), .val (.int p2), .val (.int p3), .val (.int p4), .val (.int p5), .val (.int p6), .val (.int ww), .val (.int mo), .val (.int x8), .val (.ref b1384), .val .null, .val (.ref ar2), s12] [(.int (1 : Int32))])) _
              refine own_retNW Xr1466 hx Bd.notSynchronized (t := .boolean) (z := (1 : Int32)) Bd.returns (by simp) rfl hSr1466 (Nat.le_refl _) hZr1466 hEL (hh ▸ CR1470) (hb hby at_134) rfl (Nat.le_of_ble_eq_true rfl) (Nat.le_of_ble_eq_true rfl) ?_
              exact ⟨rfl, N1466⟩
      by_cases hc81_1474 : mo = (1 : Int32)
      · refine own_back (fun t k => XS.icmpNo X1375.here hx rfl (hb hby at_81) rfl (Jvm.Free.XT.ii_ne_f hc81_1474) k) ?_
        show OwnGo p e below (T1375.setTop (mkF m 84 #[.val (.int p1), .val (.int p2), .val (.int p3), .val (.int p4), .val (.int p5), .val (.int p6), .val (.int ww), .val (.int mo), .val (.int x8), .unset, .val (.int vv), .val (.ref ar), .unset] [])) _
        refine own_back (fun t k => XS.iloadN X1375.here hx rfl (hb hby at_84) rfl k) ?_
        show OwnGo p e below (T1375.setTop (mkF m 85 #[.val (.int p1), .val (.int p2), .val (.int p3), .val (.int p4), .val (.int p5), .val (.int p6), .val (.int ww), .val (.int mo), .val (.int x8), .unset, .val (.int vv), .val (.ref ar), .unset] [(.int p3)])) _
        refine own_back (fun t k => X1375.ldcInt hx hownj1374 (mvT hZj1374 (hw _ (List.mem_of_getElem? (i := 0) rfl))) (g := (mkF m 85 #[.val (.int p1), .val (.int p2), .val (.int p3), .val (.int p4), .val (.int p5), .val (.int p6), .val (.int ww), .val (.int mo), .val (.int x8), .unset, .val (.int vv), .val (.ref ar), .unset] [(.int p3)])) rfl (hb hby at_85) t k) ?_
        show OwnGo p e below (T1375.setTop (mkF m 87 #[.val (.int p1), .val (.int p2), .val (.int p3), .val (.int p4), .val (.int p5), .val (.int p6), .val (.int ww), .val (.int mo), .val (.int x8), .unset, .val (.int vv), .val (.ref ar), .unset] [(.int (2147483647 : Int32)), (.int p3)])) _
        refine own_back (fun t k => XS.iand X1375.here hx rfl (hb hby at_87) rfl k) ?_
        show OwnGo p e below (T1375.setTop (mkF m 88 #[.val (.int p1), .val (.int p2), .val (.int p3), .val (.int p4), .val (.int p5), .val (.int p6), .val (.int ww), .val (.int mo), .val (.int x8), .unset, .val (.int vv), .val (.ref ar), .unset] [(.int (p3 &&& (2147483647 : Int32)))])) _
        refine own_back (fun t k => XS.aload X1375.here hx rfl (hb hby at_88) rfl rfl k) ?_
        show OwnGo p e below (T1375.setTop (mkF m 90 #[.val (.int p1), .val (.int p2), .val (.int p3), .val (.int p4), .val (.int p5), .val (.int p6), .val (.int ww), .val (.int mo), .val (.int x8), .unset, .val (.int vv), .val (.ref ar), .unset] [(.ref ar), (.int (p3 &&& (2147483647 : Int32)))])) _
        obtain ⟨c1475, A1475, q1475, S1475, M1475, H1475, U1475⟩ := id VR
        refine own_back (fun t k => X1375.arraylength hx (own_hat rfl A1475.1) (State.isArrayOf_alike hZj1374.alike A1475.2.1) (g := (mkF m 90 #[.val (.int p1), .val (.int p2), .val (.int p3), .val (.int p4), .val (.int p5), .val (.int p6), .val (.int ww), .val (.int mo), .val (.int x8), .unset, .val (.int vv), .val (.ref ar), .unset] [(.ref ar), (.int (p3 &&& (2147483647 : Int32)))])) rfl rfl (hb hby at_90) t k) ?_
        rw [len_of S1475 M1475]
        show OwnGo p e below (T1375.setTop (mkF m 91 #[.val (.int p1), .val (.int p2), .val (.int p3), .val (.int p4), .val (.int p5), .val (.int p6), .val (.int ww), .val (.int mo), .val (.int x8), .unset, .val (.int vv), .val (.ref ar), .unset] [(.int (Int32.ofNat cs.length)), (.int (p3 &&& (2147483647 : Int32)))])) _
        refine own_back (fun t k => iremM X1375 hx rfl (hb hby at_91) rfl (own_nz32 hl1 hl2) k) ?_
        show OwnGo p e below (T1375.setTop (mkF m 92 #[.val (.int p1), .val (.int p2), .val (.int p3), .val (.int p4), .val (.int p5), .val (.int p6), .val (.int ww), .val (.int mo), .val (.int x8), .unset, .val (.int vv), .val (.ref ar), .unset] [(.int ((p3 &&& (2147483647 : Int32)) % (Int32.ofNat cs.length)))])) _
        refine own_back (fun t k => XS.istore X1375.here hx rfl (hb hby at_92) rfl (l' := #[.val (.int p1), .val (.int p2), .val (.int p3), .val (.int p4), .val (.int p5), .val (.int p6), .val (.int ww), .val (.int mo), .val (.int x8), .unset, .val (.int vv), .val (.ref ar), .val (.int ((p3 &&& (2147483647 : Int32)) % (Int32.ofNat cs.length)))]) rfl k) ?_
        show OwnGo p e below (T1375.setTop (mkF m 94 #[.val (.int p1), .val (.int p2), .val (.int p3), .val (.int p4), .val (.int p5), .val (.int p6), .val (.int ww), .val (.int mo), .val (.int x8), .unset, .val (.int vv), .val (.ref ar), .val (.int ((p3 &&& (2147483647 : Int32)) % (Int32.ofNat cs.length)))] [])) _
        refine own_back (fun t k => XS.aload X1375.here hx rfl (hb hby at_94) rfl rfl k) ?_
        show OwnGo p e below (T1375.setTop (mkF m 96 #[.val (.int p1), .val (.int p2), .val (.int p3), .val (.int p4), .val (.int p5), .val (.int p6), .val (.int ww), .val (.int mo), .val (.int x8), .unset, .val (.int vv), .val (.ref ar), .val (.int ((p3 &&& (2147483647 : Int32)) % (Int32.ofNat cs.length)))] [(.ref ar)])) _
        refine own_back (fun t k => XS.iload X1375.here hx rfl (hb hby at_96) rfl k) ?_
        show OwnGo p e below (T1375.setTop (mkF m 98 #[.val (.int p1), .val (.int p2), .val (.int p3), .val (.int p4), .val (.int p5), .val (.int p6), .val (.int ww), .val (.int mo), .val (.int x8), .unset, .val (.int vv), .val (.ref ar), .val (.int ((p3 &&& (2147483647 : Int32)) % (Int32.ofNat cs.length)))] [(.int ((p3 &&& (2147483647 : Int32)) % (Int32.ofNat cs.length))), (.ref ar)])) _
        refine own_back (fun t k => XS.iload X1375.here hx rfl (hb hby at_98) rfl k) ?_
        show OwnGo p e below (T1375.setTop (mkF m 100 #[.val (.int p1), .val (.int p2), .val (.int p3), .val (.int p4), .val (.int p5), .val (.int p6), .val (.int ww), .val (.int mo), .val (.int x8), .unset, .val (.int vv), .val (.ref ar), .val (.int ((p3 &&& (2147483647 : Int32)) % (Int32.ofNat cs.length)))] [(.int x8), (.int ((p3 &&& (2147483647 : Int32)) % (Int32.ofNat cs.length))), (.ref ar)])) _
        obtain ⟨c1476, A1476, q1476, S1476, M1476, H1476, U1476⟩ := id VR
        have hpos := own_pos (x := p3) hl1 hl2
        obtain ⟨T1477, h1477, X1477, e1477, W1477, st1477⟩ := stC X1375 hx hZj1374 rfl A1476 (j := ((p3 &&& (2147483647 : Int32)) % (Int32.ofNat cs.length))) (inb_of S1476 hpos) (g := (mkF m 100 #[.val (.int p1), .val (.int p2), .val (.int p3), .val (.int p4), .val (.int p5), .val (.int p6), .val (.int ww), .val (.int mo), .val (.int x8), .unset, .val (.int vv), .val (.ref ar), .val (.int ((p3 &&& (2147483647 : Int32)) % (Int32.ofNat cs.length)))] [(.int x8), (.int ((p3 &&& (2147483647 : Int32)) % (Int32.ofNat cs.length))), (.ref ar)])) rfl rfl (hb hby at_100)
        have O1478 := O1376.wr W1477 ge1381
        have KP1479 := KP1377.wr W1477 (Or.inr sz1382)
        have Zs1480 := Nat.le_trans Zs1378 (Keep.of_wr W1477).1
        have CR1481 := CR1379.trans (CHr.wr W1477 (Safe.arv hZj1374.alike VR (by decide)) CR1379.1)
        have hk1482 := Nat.le_trans hk1380 (Keep.of_wr W1477).1
        have V1483 := Arv.set A1476 q1476 S1476 M1476 H1476 U1476 (fits_nar_char _) W1477 (((p3 &&& (2147483647 : Int32)) % (Int32.ofNat cs.length))).toNatClampNeg rfl (own_plt hl1 hl2 hpos)
        obtain ⟨cs2, ecs2⟩ : ∃ z : List Int32, z = cs.set (((p3 &&& (2147483647 : Int32)) % (Int32.ofNat cs.length))).toNatClampNeg (nar .char x8) := ⟨_, rfl⟩
        have V1484 : Arv Z h1477 ar kr .char (Int32.ofNat cs2.length) (cs2.map Value.int) (.int 0) := by rw [ecs2, List.length_set, List.map_set]; exact V1483
        have hcs2 : ∀ y ∈ cs2, OwnCh y := by rw [ecs2]; exact own_setall hcs (own_hpn hx8)
        have hl3 : 1 ≤ cs2.length := by rw [ecs2, List.length_set]; exact hl1
        have hl4 : cs2.length ≤ 19 := by rw [ecs2, List.length_set]; exact hl2
        have N1485 := Fr.snoc X1477 N1375 ge1381
        refine own_back st1477 ?_
        show OwnGo p e below (T1477.setTop (mkF m 101 #[.val (.int p1), .val (.int p2), .val (.int p3), .val (.int p4), .val (.int p5), .val (.int p6), .val (.int ww), .val (.int mo), .val (.int x8), .unset, .val (.int vv), .val (.ref ar), .val (.int ((p3 &&& (2147483647 : Int32)) % (Int32.ofNat cs.length)))] [])) _
        exact tl101_1383 _ _ ar kr cs2 (.val (.int ((p3 &&& (2147483647 : Int32)) % (Int32.ofNat cs.length)))) ⟨_, _, _, X1477, e1477, hSj1374, hk1482, hZj1374, hownj1374, CR1481, O1478, KP1479, Zs1480, N1485⟩ V1484 hcs2 hl3 hl4
      · refine own_back (fun t k => XS.icmpYes X1375.here hx rfl (pc0 := 81) (pc' := 101) rfl (hb hby at_81) rfl (Jvm.Free.XT.ii_ne_t hc81_1474) (by decide) (by decide) k) ?_
        show OwnGo p e below (T1375.setTop (mkF m 101 #[.val (.int p1), .val (.int p2), .val (.int p3), .val (.int p4), .val (.int p5), .val (.int p6), .val (.int ww), .val (.int mo), .val (.int x8), .unset, .val (.int vv), .val (.ref ar), .unset] [])) _
        exact tl101_1383 _ _ ar kr cs (.unset) ⟨_, _, _, X1375, rfl, hSj1374, hk1380, hZj1374, hownj1374, CR1379, O1376, KP1377, Zs1378, N1375⟩ VR hcs hl1 hl2
    refine own_back (fun t k => XS.iload X0.here hx rfl (hb hby at_44) rfl k) ?_
    show OwnGo p e below (s₁.setTop (mkF m 46 #[.val (.int p1), .val (.int p2), .val (.int p3), .val (.int p4), .val (.int p5), .val (.int p6), .val (.int ww), .val (.int mo), .val (.int x8), .unset, .unset, .unset, .unset] [(.int mo)])) _
    refine own_back (fun t k => XS.iconst X0.here hx rfl (hb hby at_46) k) ?_
    show OwnGo p e below (s₁.setTop (mkF m 47 #[.val (.int p1), .val (.int p2), .val (.int p3), .val (.int p4), .val (.int p5), .val (.int p6), .val (.int ww), .val (.int mo), .val (.int x8), .unset, .unset, .unset, .unset] [(.int (2 : Int32)), (.int mo)])) _
    by_cases hc47_1486 : mo = (2 : Int32)
    · refine own_back (fun t k => XS.icmpNo X0.here hx rfl (hb hby at_47) rfl (Jvm.Free.XT.ii_ne_f hc47_1486) k) ?_
      show OwnGo p e below (s₁.setTop (mkF m 50 #[.val (.int p1), .val (.int p2), .val (.int p3), .val (.int p4), .val (.int p5), .val (.int p6), .val (.int ww), .val (.int mo), .val (.int x8), .unset, .unset, .unset, .unset] [])) _
      refine own_back (fun t k => XS.iconst X0.here hx rfl (hb hby at_50) k) ?_
      show OwnGo p e below (s₁.setTop (mkF m 51 #[.val (.int p1), .val (.int p2), .val (.int p3), .val (.int p4), .val (.int p5), .val (.int p6), .val (.int ww), .val (.int mo), .val (.int x8), .unset, .unset, .unset, .unset] [(.int (1 : Int32))])) _
      refine own_back (fun t k => XS.goto X0.here hx rfl (pc0 := 51) (pc' := 65) rfl (hb hby at_51) (by decide) (by decide) k) ?_
      show OwnGo p e below (s₁.setTop (mkF m 65 #[.val (.int p1), .val (.int p2), .val (.int p3), .val (.int p4), .val (.int p5), .val (.int p6), .val (.int ww), .val (.int mo), .val (.int x8), .unset, .unset, .unset, .unset] [(.int (1 : Int32))])) _
      exact tl65_1374 _ _ (1 : Int32) ⟨_, _, _, X0, e0, hS0, hk0, hZ, hown, CR0, OL, KP0, Z0, N0⟩
    · refine own_back (fun t k => XS.icmpYes X0.here hx rfl (pc0 := 47) (pc' := 54) rfl (hb hby at_47) rfl (Jvm.Free.XT.ii_ne_t hc47_1486) (by decide) (by decide) k) ?_
      show OwnGo p e below (s₁.setTop (mkF m 54 #[.val (.int p1), .val (.int p2), .val (.int p3), .val (.int p4), .val (.int p5), .val (.int p6), .val (.int ww), .val (.int mo), .val (.int x8), .unset, .unset, .unset, .unset] [])) _
      refine own_back (fun t k => XS.iload X0.here hx rfl (hb hby at_54) rfl k) ?_
      show OwnGo p e below (s₁.setTop (mkF m 56 #[.val (.int p1), .val (.int p2), .val (.int p3), .val (.int p4), .val (.int p5), .val (.int p6), .val (.int ww), .val (.int mo), .val (.int x8), .unset, .unset, .unset, .unset] [(.int mo)])) _
      refine own_back (fun t k => XS.iconst X0.here hx rfl (hb hby at_56) k) ?_
      show OwnGo p e below (s₁.setTop (mkF m 57 #[.val (.int p1), .val (.int p2), .val (.int p3), .val (.int p4), .val (.int p5), .val (.int p6), .val (.int ww), .val (.int mo), .val (.int x8), .unset, .unset, .unset, .unset] [(.int (3 : Int32)), (.int mo)])) _
      by_cases hc57_1487 : mo = (3 : Int32)
      · refine own_back (fun t k => XS.icmpNo X0.here hx rfl (hb hby at_57) rfl (Jvm.Free.XT.ii_ne_f hc57_1487) k) ?_
        show OwnGo p e below (s₁.setTop (mkF m 60 #[.val (.int p1), .val (.int p2), .val (.int p3), .val (.int p4), .val (.int p5), .val (.int p6), .val (.int ww), .val (.int mo), .val (.int x8), .unset, .unset, .unset, .unset] [])) _
        refine own_back (fun t k => XS.iconst X0.here hx rfl (hb hby at_60) k) ?_
        show OwnGo p e below (s₁.setTop (mkF m 61 #[.val (.int p1), .val (.int p2), .val (.int p3), .val (.int p4), .val (.int p5), .val (.int p6), .val (.int ww), .val (.int mo), .val (.int x8), .unset, .unset, .unset, .unset] [(.int (2 : Int32))])) _
        refine own_back (fun t k => XS.goto X0.here hx rfl (pc0 := 61) (pc' := 65) rfl (hb hby at_61) (by decide) (by decide) k) ?_
        show OwnGo p e below (s₁.setTop (mkF m 65 #[.val (.int p1), .val (.int p2), .val (.int p3), .val (.int p4), .val (.int p5), .val (.int p6), .val (.int ww), .val (.int mo), .val (.int x8), .unset, .unset, .unset, .unset] [(.int (2 : Int32))])) _
        exact tl65_1374 _ _ (2 : Int32) ⟨_, _, _, X0, e0, hS0, hk0, hZ, hown, CR0, OL, KP0, Z0, N0⟩
      · refine own_back (fun t k => XS.icmpYes X0.here hx rfl (pc0 := 57) (pc' := 64) rfl (hb hby at_57) rfl (Jvm.Free.XT.ii_ne_t hc57_1487) (by decide) (by decide) k) ?_
        show OwnGo p e below (s₁.setTop (mkF m 64 #[.val (.int p1), .val (.int p2), .val (.int p3), .val (.int p4), .val (.int p5), .val (.int p6), .val (.int ww), .val (.int mo), .val (.int x8), .unset, .unset, .unset, .unset] [])) _
        refine own_back (fun t k => XS.iconst X0.here hx rfl (hb hby at_64) k) ?_
        show OwnGo p e below (s₁.setTop (mkF m 65 #[.val (.int p1), .val (.int p2), .val (.int p3), .val (.int p4), .val (.int p5), .val (.int p6), .val (.int ww), .val (.int mo), .val (.int x8), .unset, .unset, .unset, .unset] [(.int (0 : Int32))])) _
        exact tl65_1374 _ _ (0 : Int32) ⟨_, _, _, X0, e0, hS0, hk0, hZ, hown, CR0, OL, KP0, Z0, N0⟩
set_option maxRecDepth 65536 in
set_option maxHeartbeats 40000000 in
theorem comes_1 {Post : Tables → Env → Array Value → State → Outcome → State → Prop} (hpost : ∀ tb e args s v u, (limb_1_1.after args s (.returned v) u = true ∧ limb_1_2.after args s (.returned v) u = true ∧ True) → ReturnedEndW s (.returned v) u (Jvm.fieldLocs frame_1_writes args s ++ Jvm.arrayLocs frame_1_arrays args s ++ Jvm.staticLocs frame_1_statics s) 24 4288 → Post tb e args s (.returned v) u) :
    ArmFor flags0 classFile x code maxLocals ret World_1 tables_1 room_1 Calls_1 rest_1 Pre_1 Post := by
  intro l hfl _ _ p e ha hc hk s m args below hf hA hF happ hP
  obtain ⟨hcalls, hrest, hpre⟩ := hP
  obtain ⟨-, -, -, hnamed, -, -, -, hat⟩ := (Spec.applies_iff hf).mp happ
  obtain ⟨hg, hn⟩ := and_e (Cond.before_iff.mp (show (Jvm.Cond.and given_1 narrow_1).before args s = true from hpre))
  obtain ⟨g1, g2⟩ := and_e hg
  obtain ⟨g3, g4⟩ := and_e g2
  obtain ⟨g5, g6⟩ := and_e g4
  obtain ⟨g7, g8⟩ := and_e g6
  obtain ⟨g9, g10⟩ := and_e g8
  obtain ⟨g11, g12⟩ := and_e g10
  obtain ⟨g13, g14⟩ := and_e hn
  obtain ⟨g15, g16⟩ := and_e g14
  obtain ⟨g17, g18⟩ := and_e g16
  obtain ⟨g19, g20⟩ := and_e g18
  obtain ⟨g21, g22⟩ := and_e g20
  obtain ⟨g23, g24⟩ := and_e g22
  obtain ⟨g25, g26⟩ := and_e g24
  obtain ⟨g27, g28⟩ := and_e g26
  obtain ⟨g29, g30⟩ := and_e g28
  obtain ⟨g31, g32⟩ := and_e g30
  obtain ⟨g33, g34⟩ := and_e g32
  obtain ⟨g35, g36⟩ := and_e g34
  obtain ⟨g37, g38⟩ := and_e g36
  obtain ⟨g39, g40⟩ := and_e g38
  obtain ⟨g41, g42⟩ := and_e g40
  obtain ⟨g43, g44⟩ := and_e g42
  obtain ⟨g45, g46⟩ := and_e g44
  obtain ⟨g47, g48⟩ := and_e g46
  obtain ⟨g49, g50⟩ := and_e g48
  obtain ⟨g51, g52⟩ := and_e g50
  obtain ⟨g53, g54⟩ := and_e g52
  obtain ⟨g55, g56⟩ := and_e g54
  obtain ⟨g57, g58⟩ := and_e g56
  obtain ⟨g59, g60⟩ := and_e g58
  obtain ⟨g61, g62⟩ := and_e g60
  obtain ⟨g63, g64⟩ := and_e g62
  obtain ⟨g65, g66⟩ := and_e g64
  obtain ⟨g67, g68⟩ := and_e g66
  obtain ⟨g69, g70⟩ := and_e g68
  obtain ⟨g71, g72⟩ := and_e g70
  obtain ⟨g73, g74⟩ := and_e g72
  obtain ⟨g75, g76⟩ := and_e g74
  obtain ⟨g77, g78⟩ := and_e g76
  obtain ⟨g79, g80⟩ := and_e g78
  obtain ⟨g81, g82⟩ := and_e g80
  obtain ⟨g83, g84⟩ := and_e g82
  obtain ⟨g85, g86⟩ := and_e g84
  obtain ⟨g87, g88⟩ := and_e g86
  obtain ⟨g89, g90⟩ := and_e g88
  obtain ⟨g91, g92⟩ := and_e g90
  obtain ⟨g93, g94⟩ := and_e g92
  obtain ⟨g95, g96⟩ := and_e g94
  obtain ⟨g97, g98⟩ := and_e g96
  obtain ⟨g99, g100⟩ := and_e g98
  obtain ⟨g101, g102⟩ := and_e g100
  obtain ⟨g103, g104⟩ := and_e g102
  obtain ⟨g105, g106⟩ := and_e g104
  obtain ⟨g107, g108⟩ := and_e g106
  obtain ⟨g109, g110⟩ := and_e g108
  obtain ⟨g111, g112⟩ := and_e g110
  obtain ⟨g113, g114⟩ := and_e g112
  obtain ⟨g115, g116⟩ := and_e g114
  obtain ⟨g117, g118⟩ := and_e g116
  obtain ⟨g119, g120⟩ := and_e g118
  obtain ⟨g121, g122⟩ := and_e g120
  obtain ⟨w0, w1, w2, w3, w4, w5, rfl⟩ : ∃ w0 w1 w2 w3 w4 w5 : Value, args = #[w0, w1, w2, w3, w4, w5] := by
    have hs : args.size = 6 := by simpa [Cond.value, given_1] using g1
    obtain ⟨L⟩ := args
    match L, hs with
    | [w0, w1, w2, w3, w4, w5], _ => exact ⟨w0, w1, w2, w3, w4, w5, rfl⟩
  have hw := fun d (hd : d ∈ tables_1) => atoms_spec (ws := Jvm.Cond.code x code maxLocals ret :: tables_1) hat d (List.mem_cons_of_mem _ hd)
  have hfit : Fit s := fun {y c} hc i hi => by
    obtain ⟨ha, rfl⟩ := Array.getElem?_eq_some_iff.mp hc
    have q := List.all_eq_true.mp ((Array.all_eq_true_iff_forall_mem.mp hF) _ (Array.getElem_mem ha)) i (List.mem_range.mpr hi)
    simpa [Array.getElem?_eq_getElem hi] using q
  obtain ⟨hsets, hown0⟩ := atoms_of _ (rest_1_c_eq ▸ (show rest_1_c.before _ s = true from hrest))
  have hr0 := Cond.before_iff.mp hown0
  obtain ⟨i0, ei0⟩ := is_v g3
  obtain rfl : w0 = (.int i0) := Option.some.inj ei0
  obtain ⟨i1, ei1⟩ := is_v g5
  obtain rfl : w1 = (.int i1) := Option.some.inj ei1
  obtain ⟨i2, ei2⟩ := is_v g7
  obtain rfl : w2 = (.int i2) := Option.some.inj ei2
  obtain ⟨i3, ei3⟩ := is_v g9
  obtain rfl : w3 = (.int i3) := Option.some.inj ei3
  obtain ⟨i4, ei4⟩ := is_v g11
  obtain rfl : w4 = (.int i4) := Option.some.inj ei4
  obtain ⟨i5, ei5⟩ := is_v g12
  obtain rfl : w5 = (.int i5) := Option.some.inj ei5
  obtain ⟨wS, vS⟩ := exa_v g19
  have SS : Sta s s.heap "com/example/indexwright/indexwright/marketdata/ShareAdjustment$Kind" "SPLIT" "Lcom/example/indexwright/indexwright/marketdata/ShareAdjustment$Kind;" (.ref wS) := Sta.start vS (Or.inr ⟨(hw _ (List.mem_of_getElem? (i := 37) rfl)), (hw _ (List.mem_of_getElem? (i := 51) rfl))⟩)
  obtain ⟨wD, vD⟩ := exa_v g23
  have SD : Sta s s.heap "com/example/indexwright/indexwright/marketdata/ShareAdjustment$Kind" "STOCK_DISTRIBUTION" "Lcom/example/indexwright/indexwright/marketdata/ShareAdjustment$Kind;" (.ref wD) := Sta.start vD (Or.inr ⟨(hw _ (List.mem_of_getElem? (i := 37) rfl)), (hw _ (List.mem_of_getElem? (i := 52) rfl))⟩)
  obtain ⟨wR, vR⟩ := exa_v g27
  have SR : Sta s s.heap "com/example/indexwright/indexwright/marketdata/ShareAdjustment$Kind" "RIGHTS_ISSUE" "Lcom/example/indexwright/indexwright/marketdata/ShareAdjustment$Kind;" (.ref wR) := Sta.start vR (Or.inr ⟨(hw _ (List.mem_of_getElem? (i := 37) rfl)), (hw _ (List.mem_of_getElem? (i := 53) rfl))⟩)
  obtain ⟨wV, vV⟩ := arr_v g13
  have SV : Sta s s.heap "com/example/indexwright/indexwright/marketdata/ShareAdjustment$Kind" "$VALUES" "[Lcom/example/indexwright/indexwright/marketdata/ShareAdjustment$Kind;" (.ref wV) := Sta.start vV (Or.inl (hw _ (List.mem_of_getElem? (i := 54) rfl)))
  obtain ⟨cV, AV0⟩ := Arr.start vV g13
  have nV := own_len AV0 vV g17
  have AV : Arv s s.heap wV cV.cls (.object "com/example/indexwright/indexwright/marketdata/ShareAdjustment$Kind") 3 [.ref wS, .ref wD, .ref wR] .null := Arv.start hfit AV0 (by rw [nV]; decide) (by rw [nV]; rfl) (by decide) rfl ⟨own_elemR AV0 vV vS g21 (by decide), own_elemR AV0 vV vD g25 (by decide), own_elemR AV0 vV vR g29 (by decide), trivial⟩
  have EV : Exa s s.heap wV "[Lcom/example/indexwright/indexwright/marketdata/ShareAdjustment$Kind;" := Exa.start vV g15
  have FV : ∀ c, s.heap[wV]? = some c → FitC s c := fun c hc => by
    cases AV0.1.symm.trans hc
    exact FitC.start hfit AV0
  obtain ⟨kS, ekS⟩ := exa_v g31
  have FS : Fld s s.heap wS "com/example/indexwright/indexwright/marketdata/ShareAdjustment$Kind" "type" "Ljava/lang/String;" (.ref kS) := Fld.start ((fld_at vS).symm.trans ekS)
  have BS : OwnStr s s.heap kS [115, 112, 108, 105, 116] := by
    obtain ⟨tv, ev⟩ := arr_v g35
    obtain ⟨cv, Av⟩ := Arr.start ev g35
    have nn := own_len Av ev g37
    exact ⟨tv, cv.cls, Exa.start ekS g31, Fld.start ((fld_at ekS).symm.trans (own_eqint g33)), Fld.start ((fld_at ekS).symm.trans ev), Arv.start hfit Av (by rw [nn]; decide) (by rw [nn]; rfl) (by decide) rfl ⟨own_elem Av ev g55 (by decide), own_elem Av ev g57 (by decide), own_elem Av ev g59 (by decide), own_elem Av ev g61 (by decide), own_elem Av ev g63 (by decide), trivial⟩, Nat.le_of_ble_eq_true rfl⟩
  obtain ⟨kD, ekD⟩ := exa_v g39
  have FD : Fld s s.heap wD "com/example/indexwright/indexwright/marketdata/ShareAdjustment$Kind" "type" "Ljava/lang/String;" (.ref kD) := Fld.start ((fld_at vD).symm.trans ekD)
  have BD : OwnStr s s.heap kD [115, 116, 111, 99, 107, 45, 100, 105, 115, 116, 114, 105, 98, 117, 116, 105, 111, 110] := by
    obtain ⟨tv, ev⟩ := arr_v g43
    obtain ⟨cv, Av⟩ := Arr.start ev g43
    have nn := own_len Av ev g45
    exact ⟨tv, cv.cls, Exa.start ekD g39, Fld.start ((fld_at ekD).symm.trans (own_eqint g41)), Fld.start ((fld_at ekD).symm.trans ev), Arv.start hfit Av (by rw [nn]; decide) (by rw [nn]; rfl) (by decide) rfl ⟨own_elem Av ev g65 (by decide), own_elem Av ev g67 (by decide), own_elem Av ev g69 (by decide), own_elem Av ev g71 (by decide), own_elem Av ev g73 (by decide), own_elem Av ev g75 (by decide), own_elem Av ev g77 (by decide), own_elem Av ev g79 (by decide), own_elem Av ev g81 (by decide), own_elem Av ev g83 (by decide), own_elem Av ev g85 (by decide), own_elem Av ev g87 (by decide), own_elem Av ev g89 (by decide), own_elem Av ev g91 (by decide), own_elem Av ev g93 (by decide), own_elem Av ev g95 (by decide), own_elem Av ev g97 (by decide), own_elem Av ev g99 (by decide), trivial⟩, Nat.le_of_ble_eq_true rfl⟩
  obtain ⟨kR, ekR⟩ := exa_v g47
  have FR : Fld s s.heap wR "com/example/indexwright/indexwright/marketdata/ShareAdjustment$Kind" "type" "Ljava/lang/String;" (.ref kR) := Fld.start ((fld_at vR).symm.trans ekR)
  have BR : OwnStr s s.heap kR [114, 105, 103, 104, 116, 115, 45, 105, 115, 115, 117, 101] := by
    obtain ⟨tv, ev⟩ := arr_v g51
    obtain ⟨cv, Av⟩ := Arr.start ev g51
    have nn := own_len Av ev g53
    exact ⟨tv, cv.cls, Exa.start ekR g47, Fld.start ((fld_at ekR).symm.trans (own_eqint g49)), Fld.start ((fld_at ekR).symm.trans ev), Arv.start hfit Av (by rw [nn]; decide) (by rw [nn]; rfl) (by decide) rfl ⟨own_elem Av ev g101 (by decide), own_elem Av ev g103 (by decide), own_elem Av ev g105 (by decide), own_elem Av ev g107 (by decide), own_elem Av ev g109 (by decide), own_elem Av ev g111 (by decide), own_elem Av ev g113 (by decide), own_elem Av ev g115 (by decide), own_elem Av ev g117 (by decide), own_elem Av ev g119 (by decide), own_elem Av ev g121 (by decide), own_elem Av ev g122 (by decide), trivial⟩, Nat.le_of_ble_eq_true rfl⟩
  obtain ⟨cz, ecz⟩ := is_v (Cond.before_iff.mp (hsets _ (List.mem_of_getElem? (i := 1) rfl)))
  have SC : Sta s s.heap "java/lang/String" "COMPACT_STRINGS" "Z" (.int cz) := Sta.start ecz (Or.inl (hsets _ (List.mem_of_getElem? (i := 0) rfl)))
  have ncz := not_v (Cond.before_iff.mp (hsets _ (List.mem_of_getElem? (i := 2) rfl)))
  have hcz : ¬ (cz = (0 : Int32)) := gotF (Cond.eq_ints ecz (Term.int_eval (0))) ncz
  have hCH : CHv s own_EL s.vm s.heap := CHv.start (own_EW hw) (fun p hp => hcalls.1 p hp) (hsets _ (List.mem_of_getElem? (i := 2) rfl)) (hw _ (List.mem_of_getElem? (i := 24) rfl)) (hw _ (List.mem_of_getElem? (i := 7) rfl))
  obtain ⟨n, o, h1, h2, h3, _, L, rfl, ⟨rfl, N⟩, -, hq⟩ := rm_law l s _ hw tables_1 i0 i1 i2 i3 i4 i5 wS wD wR wV cV.cls kS kD kR cz s.heap s.heap.size (Nat.le_refl _) (Old.start s) SS SD SR SV AV EV FV FS FD FR BS BD BR SC hcz p e ha hc hk s m _ below hf ((Spec.applies_iff_loose hf).mp happ).1 ⟨rfl, State.Warmed39.refl s, rfl, hCH, fun _ q => nomatch q⟩ trivial
  refine ⟨n, _, h1, h2, h3, hpost _ _ _ _ _ _ ⟨Cond.after_iff.mpr rfl, Cond.after_iff.mpr (eq_i res_at (Term.int_eval (1)) rfl), trivial⟩ ⟨hq.1, hq.2.1, hq.2.2.1, (hq.2.2.2.sift fun y hy => Or.inr (N y hy)).mono (by decide) (by decide)⟩⟩
theorem main_1_1 : Claimed_1_1 := comes_1 fun _ _ _ _ _ _ h hF => ⟨h.1, hF⟩
theorem main_1_2 : Claimed_1_2 := comes_1 fun _ _ _ _ _ _ h hF => ⟨h.2.1, hF⟩
end Jvm.Pilot.@@N@@
namespace Jvm.Pilot.@@N@@
open Jvm Jvm.ClassFile Sem Op Lib Jvm.Free Jvm.Stand Jvm.Pilot.@@N@@.Jvm.D
/-! MADE BY PROGRAM (witnessworld.py) out of the Statement's table words and the real class files: 22 classes; the members and pool entries that the words name. The judged class is class 1, her method 4. -/
namespace start1
open Jvm.ClassFile
def u (s : String) : CpInfo := .utf8 (stringToUtf16 s)
/-- a pool by its gaps: so many unusable entries, then the entry; so many at the end -/
def gap : Nat → List CpInfo → List CpInfo
  | 0, r => r
  | n + 1, r => .unusable :: gap n r
def poolList (es : List (Nat × CpInfo)) (last : Nat) : List CpInfo := es.foldr (fun e r => gap e.1 (e.2 :: r)) (gap last [])
def pool (es : List (Nat × CpInfo)) (last : Nat) : Array CpInfo := ⟨poolList es last⟩
def fileOf (pool : Array CpInfo) (this : Nat) (attrs : Array Attribute := #[]) (ms : Array MethodInfo := #[]) (fl : Nat := 33) (sup : Nat := 0) (ifs : Array Nat := #[]) (fds : Array FieldInfo := #[]) : ClassFile where
  minorVersion := 0
  majorVersion := 65
  constantPool := pool
  accessFlags := fl
  thisClass := this
  superClass := sup
  interfaces := ifs
  fields := fds
  methods := ms
  attributes := attrs
def plain (name : String) (sup : Option ClassId) : Class where
  name := name
  kind := .ordinary
  loader := none
  accessFlags := 33
  super := sup
  interfaces := #[]
  cf := none
  fields := #[]
  methods := #[]
  instanceTypes := #[]
  staticTypes := #[]
  resolved := #[]
  callSites := []
  init := .initialized
  statics := none
  mirror := none

def pool0 : Array CpInfo := pool [(5, u "<init>"), (0, u "()V"), (1, .class_ 10), (1, u "java/lang/Object"), (85, u "clone"), (0, u "()Ljava/lang/Object;")] 26

def k0c0 : Code := { maxStack := 0, maxLocals := 1, code := object_method_1_code, exceptionTable := #[], attributes := #[] }
def k0m0 : Method := { name := "<init>", desc := "()V", sig := { parameters := [], returnType := none }, accessFlags := 1, code := some k0c0 }
def k0m1 : Method := { name := "clone", desc := "()Ljava/lang/Object;", sig := { parameters := [], returnType := some (.object "java/lang/Object") }, accessFlags := 260, code := none }
/-- java/lang/Object -/
def k0 : Class := { plain "java/lang/Object" none with
  accessFlags := 33
  interfaces := #[]
  cf := some (fileOf pool0 8 #[] #[{ accessFlags := 1, nameIndex := 5, descriptorIndex := 6, attributes := #[] }, { accessFlags := 260, nameIndex := 96, descriptorIndex := 97, attributes := #[] }] 33 0 #[] #[])
  fields := #[]
  methods := #[k0m0, k0m1]
  instanceTypes := #[]
  staticTypes := #[]
  resolved := Array.replicate 124 none
  statics := none }

def pool1 : Array CpInfo := pool [(2, .class_ 4), (1, u "java/lang/Object"), (0, u "<init>"), (0, u "()V"), (0, .integer 2147483647), (0, .class_ 9), (0, u "java/lang/String"), (0, .methodref 8 11), (0, .nameAndType 5 12), (0, u "([C)V"), (0, .string 14), (0, u "split"), (0, .methodref 8 16), (0, .nameAndType 17 18), (0, u "equals"), (0, u "(Ljava/lang/Object;)Z"), (0, .fieldref 20 21), (0, .class_ 22), (0, .nameAndType 23 24), (0, u "com/example/indexwright/indexwright/marketdata/ShareAdjustment$Kind"), (0, u "SPLIT"), (0, u "Lcom/example/indexwright/indexwright/marketdata/ShareAdjustment$Kind;"), (0, .string 26), (0, u "stock-distribution"), (0, .fieldref 20 28), (0, .nameAndType 29 24), (0, u "STOCK_DISTRIBUTION"), (0, .string 31), (0, u "rights-issue"), (0, .fieldref 20 33), (0, .nameAndType 34 24), (0, u "RIGHTS_ISSUE"), (0, .methodref 36 37), (0, .class_ 38), (0, .nameAndType 39 40), (0, u "com/example/indexwright/indexwright/marketdata/KindOfPinLaw"), (0, u "drawn"), (0, u "(IIII)Ljava/lang/String;"), (0, .methodref 36 42), (0, .nameAndType 43 44), (0, u "word"), (0, u "(IIC)[C"), (0, .methodref 20 46), (0, .nameAndType 47 48), (0, u "of"), (0, u "(Ljava/lang/String;)Lcom/example/indexwright/indexwright/marketdata/ShareAdjustment$Kind;"), (0, .methodref 36 50), (0, .nameAndType 51 48), (0, u "expected"), (3, u "law"), (0, u "(IIIIII)Z")] 8

def k1m0 : Method := { name := "<init>", desc := "()V", sig := { parameters := [], returnType := none }, accessFlags := 1, code := none }
def k1c1 : Code := { maxStack := 4, maxLocals := 3, code := method_2_code, exceptionTable := #[], attributes := #[] }
def k1m1 : Method := { name := "word", desc := "(IIC)[C", sig := { parameters := [.int, .int, .char], returnType := some (.array .char) }, accessFlags := 10, code := some k1c1 }
def k1c2 : Code := { maxStack := 6, maxLocals := 8, code := method_3_code, exceptionTable := #[], attributes := #[] }
def k1m2 : Method := { name := "drawn", desc := "(IIII)Ljava/lang/String;", sig := { parameters := [.int, .int, .int, .int], returnType := some (.object "java/lang/String") }, accessFlags := 10, code := some k1c2 }
def k1c3 : Code := { maxStack := 2, maxLocals := 1, code := method_4_code, exceptionTable := #[], attributes := #[] }
def k1m3 : Method := { name := "expected", desc := "(Ljava/lang/String;)Lcom/example/indexwright/indexwright/marketdata/ShareAdjustment$Kind;", sig := { parameters := [(.object "java/lang/String")], returnType := some (.object "com/example/indexwright/indexwright/marketdata/ShareAdjustment$Kind") }, accessFlags := 10, code := some k1c3 }
def k1c4 : Code := { maxStack := 4, maxLocals := 13, code := code, exceptionTable := #[], attributes := #[] }
def k1m4 : Method := { name := "law", desc := "(IIIIII)Z", sig := { parameters := [.int, .int, .int, .int, .int, .int], returnType := some .boolean }, accessFlags := 9, code := some k1c4 }
/-- com/example/indexwright/indexwright/marketdata/KindOfPinLaw -/
def k1 : Class := { plain "com/example/indexwright/indexwright/marketdata/KindOfPinLaw" (some 0) with
  accessFlags := 49
  interfaces := #[]
  cf := some (fileOf pool1 36 #[] #[{ accessFlags := 1, nameIndex := 5, descriptorIndex := 6, attributes := #[] }, { accessFlags := 10, nameIndex := 43, descriptorIndex := 44, attributes := #[] }, { accessFlags := 10, nameIndex := 39, descriptorIndex := 40, attributes := #[] }, { accessFlags := 10, nameIndex := 51, descriptorIndex := 48, attributes := #[] }, { accessFlags := 9, nameIndex := 55, descriptorIndex := 56, attributes := #[] }] 49 2 #[] #[])
  fields := #[]
  methods := #[k1m0, k1m1, k1m2, k1m3, k1m4]
  instanceTypes := #[]
  staticTypes := #[]
  resolved := Array.replicate 65 none
  statics := none }

def pool2 : Array CpInfo := pool [(1, .class_ 2), (0, u "java/io/Serializable"), (0, .class_ 4), (0, u "java/lang/Object")] 2

/-- java/io/Serializable -/
def k2 : Class := { plain "java/io/Serializable" (some 0) with
  accessFlags := 1537
  interfaces := #[]
  cf := some (fileOf pool2 1 #[] #[] 1537 3 #[] #[])
  fields := #[]
  methods := #[]
  instanceTypes := #[]
  staticTypes := #[]
  resolved := Array.replicate 7 none
  statics := none }

def pool3 : Array CpInfo := pool [(1, .class_ 2), (0, u "java/lang/Comparable"), (0, .class_ 4), (0, u "java/lang/Object")] 7

/-- java/lang/Comparable -/
def k3 : Class := { plain "java/lang/Comparable" (some 0) with
  accessFlags := 1537
  interfaces := #[]
  cf := some (fileOf pool3 1 #[] #[] 1537 3 #[] #[])
  fields := #[]
  methods := #[]
  instanceTypes := #[]
  staticTypes := #[]
  resolved := Array.replicate 12 none
  statics := none }

def pool4 : Array CpInfo := pool [(2, .class_ 4), (1, u "java/lang/CharSequence"), (42, .class_ 48), (0, u "java/lang/CharSequence$1CodePointIterator"), (10, .class_ 60), (0, u "java/lang/CharSequence$1CharIterator"), (5, .class_ 67), (0, u "java/lang/Object")] 63

/-- java/lang/CharSequence -/
def k4 : Class := { plain "java/lang/CharSequence" (some 0) with
  accessFlags := 1537
  interfaces := #[]
  cf := some (fileOf pool4 2 #[.nestMembers #[47, 59]] #[] 1537 66 #[] #[])
  fields := #[]
  methods := #[]
  instanceTypes := #[]
  staticTypes := #[]
  resolved := Array.replicate 131 none
  statics := none }

def pool5 : Array CpInfo := pool [(1, .class_ 2), (0, u "java/lang/constant/Constable"), (0, .class_ 4), (0, u "java/lang/Object")] 6

/-- java/lang/constant/Constable -/
def k5 : Class := { plain "java/lang/constant/Constable" (some 0) with
  accessFlags := 1537
  interfaces := #[]
  cf := some (fileOf pool5 1 #[] #[] 1537 3 #[] #[])
  fields := #[]
  methods := #[]
  instanceTypes := #[]
  staticTypes := #[]
  resolved := Array.replicate 11 none
  statics := none }

def pool6 : Array CpInfo := pool [(1, .class_ 2), (0, u "java/lang/constant/ConstantDesc"), (0, .class_ 4), (0, u "java/lang/Object")] 32

/-- java/lang/constant/ConstantDesc -/
def k6 : Class := { plain "java/lang/constant/ConstantDesc" (some 0) with
  accessFlags := 1537
  interfaces := #[]
  cf := some (fileOf pool6 1 #[] #[] 1537 3 #[] #[])
  fields := #[]
  methods := #[]
  instanceTypes := #[]
  staticTypes := #[]
  resolved := Array.replicate 37 none
  statics := none }

def pool7 : Array CpInfo := pool [(1, .methodref 2 3), (0, .class_ 4), (0, .nameAndType 5 6), (0, u "java/lang/Object"), (0, u "<init>"), (0, u "()V"), (0, .string 8), (0, u ""), (0, .fieldref 10 11), (0, .class_ 12), (0, .nameAndType 13 14), (0, u "java/lang/String"), (0, u "value"), (0, u "[B"), (0, .fieldref 10 16), (0, .nameAndType 17 18), (0, u "coder"), (0, u "B"), (2, u "hash"), (0, u "I"), (2, u "hashIsZero"), (0, u "Z"), (0, .methodref 10 28), (0, .nameAndType 5 29), (0, u "([CIILjava/lang/Void;)V"), (8, .fieldref 10 39), (0, .nameAndType 40 26), (0, u "COMPACT_STRINGS"), (1, .class_ 44), (1, u "java/lang/StringUTF16"), (0, u "compress"), (1, .methodref 42 48), (0, .nameAndType 49 50), (0, u "coderFromArrayLen"), (0, u "([BI)B"), (56, .class_ 109), (1, u "java/lang/StringLatin1"), (67, .methodref 42 178), (0, .nameAndType 45 179), (0, u "([CII)[B"), (361, .methodref 107 542), (0, .nameAndType 543 544), (0, u "equals"), (0, u "([B[B)Z"), (28, u "(Ljava/lang/Object;)Z"), (1, .class_ 576), (0, u "java/lang/CharSequence"), (22, u "CASE_INSENSITIVE_ORDER"), (0, u "Ljava/util/Comparator;"), (409, u "([C)V"), (90, u "serialPersistentFields"), (0, u "[Ljava/io/ObjectStreamField;"), (0, .class_ 1104), (0, u "java/lang/String$CaseInsensitiveComparator"), (1, .class_ 1107), (0, u "java/io/Serializable"), (0, .class_ 1109), (0, u "java/lang/Comparable"), (0, .class_ 1111), (0, u "java/lang/constant/Constable"), (0, .class_ 1113), (0, u "java/lang/constant/ConstantDesc"), (2, u "serialVersionUID"), (0, u "J"), (3, u "REPL"), (0, u "C"), (2, u "LATIN1"), (1, u "UTF16")] 323

def k7m0 : Method := { name := "<init>", desc := "()V", sig := { parameters := [], returnType := none }, accessFlags := 1, code := none }
def k7c1 : Code := { maxStack := 5, maxLocals := 2, code := jdk_42_method_3_code, exceptionTable := #[], attributes := #[] }
def k7m1 : Method := { name := "<init>", desc := "([C)V", sig := { parameters := [(.array .char)], returnType := none }, accessFlags := 1, code := some k7c1 }
def k7c2 : Code := { maxStack := 2, maxLocals := 3, code := jdk_42_method_66_code, exceptionTable := #[], attributes := #[] }
def k7m2 : Method := { name := "equals", desc := "(Ljava/lang/Object;)Z", sig := { parameters := [(.object "java/lang/Object")], returnType := some .boolean }, accessFlags := 1, code := some k7c2 }
def k7c3 : Code := { maxStack := 4, maxLocals := 6, code := jdk_42_method_149_code, exceptionTable := #[], attributes := #[] }
def k7m3 : Method := { name := "<init>", desc := "([CIILjava/lang/Void;)V", sig := { parameters := [(.array .char), .int, .int, (.object "java/lang/Void")], returnType := none }, accessFlags := 2, code := some k7c3 }
/-- java/lang/String -/
def k7 : Class := { plain "java/lang/String" (some 0) with
  accessFlags := 49
  interfaces := #[2, 3, 4, 5, 6]
  cf := some (fileOf pool7 10 #[.nestMembers #[1103]] #[{ accessFlags := 1, nameIndex := 5, descriptorIndex := 6, attributes := #[] }, { accessFlags := 1, nameIndex := 5, descriptorIndex := 1010, attributes := #[] }, { accessFlags := 1, nameIndex := 543, descriptorIndex := 573, attributes := #[] }, { accessFlags := 2, nameIndex := 5, descriptorIndex := 29, attributes := #[] }] 49 2 #[1106, 1108, 575, 1110, 1112] #[{ accessFlags := 18, nameIndex := 13, descriptorIndex := 14, attributes := #[] }, { accessFlags := 18, nameIndex := 17, descriptorIndex := 18, attributes := #[] }, { accessFlags := 2, nameIndex := 21, descriptorIndex := 22, attributes := #[] }, { accessFlags := 2, nameIndex := 25, descriptorIndex := 26, attributes := #[] }, { accessFlags := 26, nameIndex := 1116, descriptorIndex := 1117, attributes := #[] }, { accessFlags := 24, nameIndex := 40, descriptorIndex := 26, attributes := #[] }, { accessFlags := 26, nameIndex := 1101, descriptorIndex := 1102, attributes := #[] }, { accessFlags := 26, nameIndex := 1121, descriptorIndex := 1122, attributes := #[] }, { accessFlags := 25, nameIndex := 599, descriptorIndex := 600, attributes := #[] }, { accessFlags := 24, nameIndex := 1125, descriptorIndex := 18, attributes := #[] }, { accessFlags := 24, nameIndex := 1127, descriptorIndex := 18, attributes := #[] }])
  fields := #[{ name := "value", type := (.array .byte), accessFlags := 18, slot := 0, constantValue := 0 }, { name := "coder", type := .byte, accessFlags := 18, slot := 1, constantValue := 0 }, { name := "hash", type := .int, accessFlags := 2, slot := 2, constantValue := 0 }, { name := "hashIsZero", type := .boolean, accessFlags := 2, slot := 3, constantValue := 0 }, { name := "serialVersionUID", type := .long, accessFlags := 26, slot := 0, constantValue := 0 }, { name := "COMPACT_STRINGS", type := .boolean, accessFlags := 24, slot := 1, constantValue := 0 }, { name := "serialPersistentFields", type := (.array (.object "java/io/ObjectStreamField")), accessFlags := 26, slot := 2, constantValue := 0 }, { name := "REPL", type := .char, accessFlags := 26, slot := 3, constantValue := 0 }, { name := "CASE_INSENSITIVE_ORDER", type := (.object "java/util/Comparator"), accessFlags := 25, slot := 4, constantValue := 0 }, { name := "LATIN1", type := .byte, accessFlags := 24, slot := 5, constantValue := 0 }, { name := "UTF16", type := .byte, accessFlags := 24, slot := 6, constantValue := 0 }]
  methods := #[k7m0, k7m1, k7m2, k7m3]
  instanceTypes := #[(.array .byte), .byte, .int, .boolean]
  staticTypes := #[.long, .boolean, (.array (.object "java/io/ObjectStreamField")), .char, (.object "java/util/Comparator"), .byte, .byte]
  resolved := Array.replicate 1451 none
  statics := some 0 }

def pool8 : Array CpInfo := pool [(6, .class_ 8), (1, u "java/lang/Object"), (0, u "<init>"), (0, u "()V"), (1, .class_ 14), (1, u "java/lang/StringUTF16"), (31, u "$assertionsDisabled"), (0, u "Z"), (13, u "HI_BYTE_SHIFT"), (0, u "I"), (2, u "LO_BYTE_SHIFT"), (49, .methodref 12 116), (0, .nameAndType 117 118), (0, u "compress"), (0, u "([CI[BII)I"), (3, u "([CII)[B"), (138, u "coderFromArrayLen"), (0, u "([BI)B"), (106, .class_ 371), (1, u "java/lang/StringUTF16$LinesSpliterator"), (58, u "MAX_LENGTH"), (196, .class_ 628), (0, u "java/lang/StringUTF16$CodePointsSpliterator"), (0, .class_ 630), (0, u "java/lang/StringUTF16$CharsSpliterator")] 4

def k8m0 : Method := { name := "<init>", desc := "()V", sig := { parameters := [], returnType := none }, accessFlags := 0, code := none }
def k8c1 : Code := { maxStack := 2, maxLocals := 2, code := jdk_52_method_15_code, exceptionTable := #[], attributes := #[] }
def k8m1 : Method := { name := "coderFromArrayLen", desc := "([BI)B", sig := { parameters := [(.array .byte), .int], returnType := some .byte }, accessFlags := 8, code := some k8c1 }
def k8c2 : Code := { maxStack := 5, maxLocals := 6, code := jdk_52_method_16_code, exceptionTable := #[], attributes := #[] }
def k8m2 : Method := { name := "compress", desc := "([CII)[B", sig := { parameters := [(.array .char), .int, .int], returnType := some (.array .byte) }, accessFlags := 9, code := some k8c2 }
def k8c3 : Code := { maxStack := 3, maxLocals := 7, code := jdk_52_method_21_code, exceptionTable := #[], attributes := #[] }
def k8m3 : Method := { name := "compress", desc := "([CI[BII)I", sig := { parameters := [(.array .char), .int, (.array .byte), .int, .int], returnType := some .int }, accessFlags := 9, code := some k8c3 }
/-- java/lang/StringUTF16 -/
def k8 : Class := { plain "java/lang/StringUTF16" (some 0) with
  accessFlags := 48
  interfaces := #[]
  cf := some (fileOf pool8 12 #[.nestMembers #[627, 629, 369]] #[{ accessFlags := 0, nameIndex := 9, descriptorIndex := 10, attributes := #[] }, { accessFlags := 8, nameIndex := 261, descriptorIndex := 262, attributes := #[] }, { accessFlags := 9, nameIndex := 117, descriptorIndex := 122, attributes := #[] }, { accessFlags := 9, nameIndex := 117, descriptorIndex := 118, attributes := #[] }] 48 6 #[] #[{ accessFlags := 26, nameIndex := 61, descriptorIndex := 62, attributes := #[] }, { accessFlags := 26, nameIndex := 65, descriptorIndex := 62, attributes := #[] }, { accessFlags := 24, nameIndex := 430, descriptorIndex := 62, attributes := #[] }, { accessFlags := 4120, nameIndex := 46, descriptorIndex := 47, attributes := #[] }])
  fields := #[{ name := "HI_BYTE_SHIFT", type := .int, accessFlags := 26, slot := 0, constantValue := 0 }, { name := "LO_BYTE_SHIFT", type := .int, accessFlags := 26, slot := 1, constantValue := 0 }, { name := "MAX_LENGTH", type := .int, accessFlags := 24, slot := 2, constantValue := 0 }, { name := "$assertionsDisabled", type := .boolean, accessFlags := 4120, slot := 3, constantValue := 0 }]
  methods := #[k8m0, k8m1, k8m2, k8m3]
  instanceTypes := #[]
  staticTypes := #[.int, .int, .int, .boolean]
  resolved := Array.replicate 635 none
  statics := none }

def pool9 : Array CpInfo := pool [(2, .class_ 4), (1, u "java/lang/Enum"), (0, u "name"), (0, u "Ljava/lang/String;"), (2, u "ordinal"), (0, u "I"), (1, .class_ 14), (1, u "java/lang/Object"), (4, u "hash"), (86, .class_ 108), (1, u "java/lang/Enum$EnumDesc"), (2, .class_ 112), (0, u "java/lang/constant/Constable"), (0, .class_ 114), (0, u "java/lang/Comparable"), (0, .class_ 116), (0, u "java/io/Serializable")] 87

/-- java/lang/Enum -/
def k9 : Class := { plain "java/lang/Enum" (some 0) with
  accessFlags := 1057
  interfaces := #[5, 3, 2]
  cf := some (fileOf pool9 2 #[.nestMembers #[106]] #[] 1057 12 #[111, 113, 115] #[{ accessFlags := 18, nameIndex := 5, descriptorIndex := 6, attributes := #[] }, { accessFlags := 18, nameIndex := 9, descriptorIndex := 10, attributes := #[] }, { accessFlags := 2, nameIndex := 19, descriptorIndex := 10, attributes := #[] }])
  fields := #[{ name := "name", type := (.object "java/lang/String"), accessFlags := 18, slot := 0, constantValue := 0 }, { name := "ordinal", type := .int, accessFlags := 18, slot := 1, constantValue := 0 }, { name := "hash", type := .int, accessFlags := 2, slot := 2, constantValue := 0 }]
  methods := #[]
  instanceTypes := #[(.object "java/lang/String"), .int, .int]
  staticTypes := #[]
  resolved := Array.replicate 204 none
  statics := none }

def pool10 : Array CpInfo := pool [(1, .class_ 2), (0, u "com/example/indexwright/indexwright/marketdata/ShareAdjustment$Kind"), (2, u "SPLIT"), (0, u "Lcom/example/indexwright/indexwright/marketdata/ShareAdjustment$Kind;"), (2, u "STOCK_DISTRIBUTION"), (2, u "RIGHTS_ISSUE"), (0, .fieldref 1 14), (0, .nameAndType 15 16), (0, u "$VALUES"), (0, u "[Lcom/example/indexwright/indexwright/marketdata/ShareAdjustment$Kind;"), (0, .methodref 18 19), (0, .class_ 16), (0, .nameAndType 20 21), (0, u "clone"), (0, u "()Ljava/lang/Object;"), (1, .class_ 25), (1, u "java/lang/Enum"), (6, .fieldref 1 33), (0, .nameAndType 34 35), (0, u "type"), (0, u "Ljava/lang/String;"), (2, u "ratio"), (1, .class_ 42), (1, u "java/lang/String"), (2, .methodref 1 46), (0, .nameAndType 47 48), (0, u "values"), (0, u "()[Lcom/example/indexwright/indexwright/marketdata/ShareAdjustment$Kind;"), (0, .methodref 40 50), (0, .nameAndType 51 52), (0, u "equals"), (0, u "(Ljava/lang/Object;)Z"), (23, u "(Ljava/lang/String;)Lcom/example/indexwright/indexwright/marketdata/ShareAdjustment$Kind;"), (5, u "of"), (7, .class_ 91), (0, u "com/example/indexwright/indexwright/marketdata/ShareAdjustment")] 2

def k10c0 : Code := { maxStack := 1, maxLocals := 0, code := prog_29_method_1_code, exceptionTable := #[], attributes := #[] }
def k10m0 : Method := { name := "values", desc := "()[Lcom/example/indexwright/indexwright/marketdata/ShareAdjustment$Kind;", sig := { parameters := [], returnType := some (.array (.object "com/example/indexwright/indexwright/marketdata/ShareAdjustment$Kind")) }, accessFlags := 9, code := some k10c0 }
def k10c1 : Code := { maxStack := 2, maxLocals := 5, code := prog_29_method_7_code, exceptionTable := #[], attributes := #[] }
def k10m1 : Method := { name := "of", desc := "(Ljava/lang/String;)Lcom/example/indexwright/indexwright/marketdata/ShareAdjustment$Kind;", sig := { parameters := [(.object "java/lang/String")], returnType := some (.object "com/example/indexwright/indexwright/marketdata/ShareAdjustment$Kind") }, accessFlags := 8, code := some k10c1 }
/-- com/example/indexwright/indexwright/marketdata/ShareAdjustment$Kind -/
def k10 : Class := { plain "com/example/indexwright/indexwright/marketdata/ShareAdjustment$Kind" (some 9) with
  accessFlags := 16432
  interfaces := #[]
  cf := some (fileOf pool10 1 #[.nestHost 90] #[{ accessFlags := 9, nameIndex := 47, descriptorIndex := 48, attributes := #[] }, { accessFlags := 8, nameIndex := 82, descriptorIndex := 76, attributes := #[] }] 16432 23 #[] #[{ accessFlags := 16409, nameIndex := 5, descriptorIndex := 6, attributes := #[] }, { accessFlags := 16409, nameIndex := 9, descriptorIndex := 6, attributes := #[] }, { accessFlags := 16409, nameIndex := 12, descriptorIndex := 6, attributes := #[] }, { accessFlags := 18, nameIndex := 34, descriptorIndex := 35, attributes := #[] }, { accessFlags := 18, nameIndex := 38, descriptorIndex := 35, attributes := #[] }, { accessFlags := 4122, nameIndex := 15, descriptorIndex := 16, attributes := #[] }])
  fields := #[{ name := "SPLIT", type := (.object "com/example/indexwright/indexwright/marketdata/ShareAdjustment$Kind"), accessFlags := 16409, slot := 0, constantValue := 0 }, { name := "STOCK_DISTRIBUTION", type := (.object "com/example/indexwright/indexwright/marketdata/ShareAdjustment$Kind"), accessFlags := 16409, slot := 1, constantValue := 0 }, { name := "RIGHTS_ISSUE", type := (.object "com/example/indexwright/indexwright/marketdata/ShareAdjustment$Kind"), accessFlags := 16409, slot := 2, constantValue := 0 }, { name := "type", type := (.object "java/lang/String"), accessFlags := 18, slot := 3, constantValue := 0 }, { name := "ratio", type := (.object "java/lang/String"), accessFlags := 18, slot := 4, constantValue := 0 }, { name := "$VALUES", type := (.array (.object "com/example/indexwright/indexwright/marketdata/ShareAdjustment$Kind")), accessFlags := 4122, slot := 3, constantValue := 0 }]
  methods := #[k10m0, k10m1]
  instanceTypes := #[(.object "java/lang/String"), .int, .int, (.object "java/lang/String"), (.object "java/lang/String")]
  staticTypes := #[(.object "com/example/indexwright/indexwright/marketdata/ShareAdjustment$Kind"), (.object "com/example/indexwright/indexwright/marketdata/ShareAdjustment$Kind"), (.object "com/example/indexwright/indexwright/marketdata/ShareAdjustment$Kind"), (.array (.object "com/example/indexwright/indexwright/marketdata/ShareAdjustment$Kind"))]
  resolved := Array.replicate 94 none
  statics := some 1 }

def pool11 : Array CpInfo := pool [(1, .class_ 2), (0, u "java/lang/Cloneable"), (0, .class_ 4), (0, u "java/lang/Object")] 2

/-- java/lang/Cloneable -/
def k11 : Class := { plain "java/lang/Cloneable" (some 0) with
  accessFlags := 1537
  interfaces := #[]
  cf := some (fileOf pool11 1 #[] #[] 1537 3 #[] #[])
  fields := #[]
  methods := #[]
  instanceTypes := #[]
  staticTypes := #[]
  resolved := Array.replicate 7 none
  statics := none }

def pool12 : Array CpInfo := pool [(4, .class_ 6), (1, u "java/lang/Object"), (0, u "<init>"), (0, u "()V"), (5, .class_ 16), (1, u "java/lang/StringLatin1"), (104, u "$assertionsDisabled"), (0, u "Z"), (98, .class_ 223), (1, u "java/lang/StringLatin1$LinesSpliterator"), (57, u "equals"), (0, u "([B[B)Z"), (107, .class_ 391), (0, u "java/lang/StringLatin1$CharsSpliterator")] 3

def k12m0 : Method := { name := "<init>", desc := "()V", sig := { parameters := [], returnType := none }, accessFlags := 0, code := none }
def k12c1 : Code := { maxStack := 3, maxLocals := 3, code := jdk_43_method_13_code, exceptionTable := #[], attributes := #[] }
def k12m1 : Method := { name := "equals", desc := "([B[B)Z", sig := { parameters := [(.array .byte), (.array .byte)], returnType := some .boolean }, accessFlags := 9, code := some k12c1 }
/-- java/lang/StringLatin1 -/
def k12 : Class := { plain "java/lang/StringLatin1" (some 0) with
  accessFlags := 48
  interfaces := #[]
  cf := some (fileOf pool12 14 #[.nestMembers #[390, 221]] #[{ accessFlags := 0, nameIndex := 7, descriptorIndex := 8, attributes := #[] }, { accessFlags := 9, nameIndex := 281, descriptorIndex := 282, attributes := #[] }] 48 4 #[] #[{ accessFlags := 4120, nameIndex := 121, descriptorIndex := 122, attributes := #[] }])
  fields := #[{ name := "$assertionsDisabled", type := .boolean, accessFlags := 4120, slot := 0, constantValue := 0 }]
  methods := #[k12m0, k12m1]
  instanceTypes := #[]
  staticTypes := #[.boolean]
  resolved := Array.replicate 395 none
  statics := none }

def pool13 : Array CpInfo := pool [(2, .class_ 4), (1, u "java/lang/Object"), (0, u "<init>"), (0, u "()V"), (17, .class_ 26), (1, u "jdk/internal/util/Preconditions"), (28, .class_ 56), (0, u "jdk/internal/util/Preconditions$4"), (57, .class_ 115), (0, u "jdk/internal/util/Preconditions$1"), (7, u "SIOOBE_FORMATTER"), (0, u "Ljava/util/function/BiFunction;"), (0, .class_ 126), (0, u "jdk/internal/util/Preconditions$2"), (3, u "AIOOBE_FORMATTER"), (0, .class_ 132), (0, u "jdk/internal/util/Preconditions$3"), (3, u "IOOBE_FORMATTER")] 57

def k13m0 : Method := { name := "<init>", desc := "()V", sig := { parameters := [], returnType := none }, accessFlags := 1, code := none }
/-- jdk/internal/util/Preconditions -/
def k13 : Class := { plain "jdk/internal/util/Preconditions" (some 0) with
  accessFlags := 33
  interfaces := #[]
  cf := some (fileOf pool13 24 #[.nestMembers #[55, 131, 125, 114]] #[{ accessFlags := 1, nameIndex := 5, descriptorIndex := 6, attributes := #[] }] 33 2 #[] #[{ accessFlags := 25, nameIndex := 123, descriptorIndex := 124, attributes := #[] }, { accessFlags := 25, nameIndex := 130, descriptorIndex := 124, attributes := #[] }, { accessFlags := 25, nameIndex := 136, descriptorIndex := 124, attributes := #[] }])
  fields := #[{ name := "SIOOBE_FORMATTER", type := (.object "java/util/function/BiFunction"), accessFlags := 25, slot := 0, constantValue := 0 }, { name := "AIOOBE_FORMATTER", type := (.object "java/util/function/BiFunction"), accessFlags := 25, slot := 1, constantValue := 0 }, { name := "IOOBE_FORMATTER", type := (.object "java/util/function/BiFunction"), accessFlags := 25, slot := 2, constantValue := 0 }]
  methods := #[k13m0]
  instanceTypes := #[]
  staticTypes := #[(.object "java/util/function/BiFunction"), (.object "java/util/function/BiFunction"), (.object "java/util/function/BiFunction")]
  resolved := Array.replicate 194 none
  statics := some 2 }

def pool14 : Array CpInfo := pool [(9, u "<init>"), (6, .class_ 18), (1, u "java/lang/Object"), (0, u "()V"), (1, .class_ 23), (1, u "jdk/internal/util/ArraysSupport"), (0, u "LOG2_ARRAY_LONG_INDEX_SCALE"), (0, u "I"), (2, u "U"), (0, u "Ljdk/internal/misc/Unsafe;"), (8, u "BIG_ENDIAN"), (0, u "Z"), (8, u "LOG2_BYTE_BIT_SIZE"), (4, u "LOG2_ARRAY_INT_INDEX_SCALE"), (54, u "JLA"), (0, u "Ljdk/internal/access/JavaLangAccess;"), (11, u "LOG2_ARRAY_BOOLEAN_INDEX_SCALE"), (9, u "LOG2_ARRAY_BYTE_INDEX_SCALE"), (5, u "LOG2_ARRAY_CHAR_INDEX_SCALE"), (5, u "LOG2_ARRAY_SHORT_INDEX_SCALE"), (18, u "LOG2_ARRAY_FLOAT_INDEX_SCALE"), (24, u "LOG2_ARRAY_DOUBLE_INDEX_SCALE"), (89, u "T_BOOLEAN"), (2, u "T_CHAR"), (1, u "T_FLOAT"), (1, u "T_DOUBLE"), (1, u "T_BYTE"), (1, u "T_SHORT"), (1, u "T_INT"), (1, u "T_LONG"), (1, u "SOFT_MAX_ARRAY_LENGTH")] 83

def k14m0 : Method := { name := "<init>", desc := "()V", sig := { parameters := [], returnType := none }, accessFlags := 2, code := none }
/-- jdk/internal/util/ArraysSupport -/
def k14 : Class := { plain "jdk/internal/util/ArraysSupport" (some 0) with
  accessFlags := 33
  interfaces := #[]
  cf := some (fileOf pool14 21 #[] #[{ accessFlags := 2, nameIndex := 9, descriptorIndex := 19, attributes := #[] }] 33 16 #[] #[{ accessFlags := 24, nameIndex := 28, descriptorIndex := 29, attributes := #[] }, { accessFlags := 26, nameIndex := 38, descriptorIndex := 39, attributes := #[] }, { accessFlags := 25, nameIndex := 121, descriptorIndex := 25, attributes := #[] }, { accessFlags := 25, nameIndex := 131, descriptorIndex := 25, attributes := #[] }, { accessFlags := 25, nameIndex := 137, descriptorIndex := 25, attributes := #[] }, { accessFlags := 25, nameIndex := 143, descriptorIndex := 25, attributes := #[] }, { accessFlags := 25, nameIndex := 53, descriptorIndex := 25, attributes := #[] }, { accessFlags := 25, nameIndex := 24, descriptorIndex := 25, attributes := #[] }, { accessFlags := 25, nameIndex := 162, descriptorIndex := 25, attributes := #[] }, { accessFlags := 25, nameIndex := 187, descriptorIndex := 25, attributes := #[] }, { accessFlags := 26, nameIndex := 48, descriptorIndex := 25, attributes := #[] }, { accessFlags := 25, nameIndex := 277, descriptorIndex := 25, attributes := #[] }, { accessFlags := 25, nameIndex := 280, descriptorIndex := 25, attributes := #[] }, { accessFlags := 25, nameIndex := 282, descriptorIndex := 25, attributes := #[] }, { accessFlags := 25, nameIndex := 284, descriptorIndex := 25, attributes := #[] }, { accessFlags := 25, nameIndex := 286, descriptorIndex := 25, attributes := #[] }, { accessFlags := 25, nameIndex := 288, descriptorIndex := 25, attributes := #[] }, { accessFlags := 25, nameIndex := 290, descriptorIndex := 25, attributes := #[] }, { accessFlags := 25, nameIndex := 292, descriptorIndex := 25, attributes := #[] }, { accessFlags := 26, nameIndex := 108, descriptorIndex := 109, attributes := #[] }, { accessFlags := 25, nameIndex := 294, descriptorIndex := 25, attributes := #[] }])
  fields := #[{ name := "U", type := (.object "jdk/internal/misc/Unsafe"), accessFlags := 24, slot := 0, constantValue := 0 }, { name := "BIG_ENDIAN", type := .boolean, accessFlags := 26, slot := 1, constantValue := 0 }, { name := "LOG2_ARRAY_BOOLEAN_INDEX_SCALE", type := .int, accessFlags := 25, slot := 2, constantValue := 0 }, { name := "LOG2_ARRAY_BYTE_INDEX_SCALE", type := .int, accessFlags := 25, slot := 3, constantValue := 0 }, { name := "LOG2_ARRAY_CHAR_INDEX_SCALE", type := .int, accessFlags := 25, slot := 4, constantValue := 0 }, { name := "LOG2_ARRAY_SHORT_INDEX_SCALE", type := .int, accessFlags := 25, slot := 5, constantValue := 0 }, { name := "LOG2_ARRAY_INT_INDEX_SCALE", type := .int, accessFlags := 25, slot := 6, constantValue := 0 }, { name := "LOG2_ARRAY_LONG_INDEX_SCALE", type := .int, accessFlags := 25, slot := 7, constantValue := 0 }, { name := "LOG2_ARRAY_FLOAT_INDEX_SCALE", type := .int, accessFlags := 25, slot := 8, constantValue := 0 }, { name := "LOG2_ARRAY_DOUBLE_INDEX_SCALE", type := .int, accessFlags := 25, slot := 9, constantValue := 0 }, { name := "LOG2_BYTE_BIT_SIZE", type := .int, accessFlags := 26, slot := 10, constantValue := 0 }, { name := "T_BOOLEAN", type := .int, accessFlags := 25, slot := 11, constantValue := 0 }, { name := "T_CHAR", type := .int, accessFlags := 25, slot := 12, constantValue := 0 }, { name := "T_FLOAT", type := .int, accessFlags := 25, slot := 13, constantValue := 0 }, { name := "T_DOUBLE", type := .int, accessFlags := 25, slot := 14, constantValue := 0 }, { name := "T_BYTE", type := .int, accessFlags := 25, slot := 15, constantValue := 0 }, { name := "T_SHORT", type := .int, accessFlags := 25, slot := 16, constantValue := 0 }, { name := "T_INT", type := .int, accessFlags := 25, slot := 17, constantValue := 0 }, { name := "T_LONG", type := .int, accessFlags := 25, slot := 18, constantValue := 0 }, { name := "JLA", type := (.object "jdk/internal/access/JavaLangAccess"), accessFlags := 26, slot := 19, constantValue := 0 }, { name := "SOFT_MAX_ARRAY_LENGTH", type := .int, accessFlags := 25, slot := 20, constantValue := 0 }]
  methods := #[k14m0]
  instanceTypes := #[]
  staticTypes := #[(.object "jdk/internal/misc/Unsafe"), .boolean, .int, .int, .int, .int, .int, .int, .int, .int, .int, .int, .int, .int, .int, .int, .int, .int, .int, (.object "jdk/internal/access/JavaLangAccess"), .int]
  resolved := Array.replicate 378 none
  statics := none }

/-- the primitive byte -/
def k15 : Class := { plain "byte" none with kind := .primitive 'B', accessFlags := 0x411 }
/-- [B -/
def k16 : Class := { plain "[B" (some 0) with kind := .array 15 .byte, interfaces := #[11, 2], accessFlags := 1041 }

/-- the primitive char -/
def k17 : Class := { plain "char" none with kind := .primitive 'C', accessFlags := 0x411 }
/-- [C -/
def k18 : Class := { plain "[C" (some 0) with kind := .array 17 .char, interfaces := #[11, 2], accessFlags := 1041 }

/-- the primitive int -/
def k19 : Class := { plain "int" none with kind := .primitive 'I', accessFlags := 0x411 }
/-- [I -/
def k20 : Class := { plain "[I" (some 0) with kind := .array 19 .int, interfaces := #[11, 2], accessFlags := 1041 }

/-- [Lcom/example/indexwright/indexwright/marketdata/ShareAdjustment$Kind; -/
def k21 : Class := { plain "[Lcom/example/indexwright/indexwright/marketdata/ShareAdjustment$Kind;" (some 0) with kind := .array 10 (.object "com/example/indexwright/indexwright/marketdata/ShareAdjustment$Kind"), interfaces := #[11, 2], accessFlags := 1041 }

def heap : Heap := #[{ cls := 7, slots := #[.long 0, .int 1, .null, .int 0, .null, .int 0, .int 0], vm := .statics 7 },
  { cls := 10, slots := #[.ref 4, .ref 5, .ref 6, .ref 3], vm := .statics 10 },
  { cls := 13, slots := #[.null, .null, .null], vm := .statics 13 },
  { cls := 21, slots := #[.ref 4, .ref 5, .ref 6], vm := .none },
  { cls := 10, slots := #[.null, .int 0, .int 0, .ref 7, .null], vm := .none },
  { cls := 10, slots := #[.null, .int 0, .int 0, .ref 9, .null], vm := .none },
  { cls := 10, slots := #[.null, .int 0, .int 0, .ref 11, .null], vm := .none },
  { cls := 7, slots := #[.ref 8, .int 0, .int 0, .int 0], vm := .none },
  { cls := 16, slots := #[.int 115, .int 112, .int 108, .int 105, .int 116], vm := .none },
  { cls := 7, slots := #[.ref 10, .int 0, .int 0, .int 0], vm := .none },
  { cls := 16, slots := #[.int 115, .int 116, .int 111, .int 99, .int 107, .int 45, .int 100, .int 105, .int 115, .int 116, .int 114, .int 105, .int 98, .int 117, .int 116, .int 105, .int 111, .int 110], vm := .none },
  { cls := 7, slots := #[.ref 12, .int 0, .int 0, .int 0], vm := .none },
  { cls := 16, slots := #[.int 114, .int 105, .int 103, .int 104, .int 116, .int 115, .int 45, .int 105, .int 115, .int 115, .int 117, .int 101], vm := .none }]
def classes : Array Class := #[k0, k1, k2, k3, k4, k5, k6, k7, k8, k9, k10, k11, k12, k13, k14, k15, k16, k17, k18, k19, k20, k21]
def interned : List (Array UInt16 × Addr) := []
def slotsUsed : Nat := 79
def theMethod : MethodId := ⟨1, 4⟩
def args0 : Array Value := #[.int 5, .int 5, .int 5, .int 5, .int 5, .int 5]
def aboutOver (below : List Frame) : State where
  vm := { classes := classes, interned := interned.toArray }
  heap := heap
  slotsUsed := slotsUsed
  threads := #[{ frames := .invoking theMethod args0 :: below }]
def below0 : List Frame := [.native { method := ⟨0, 0⟩, args := #[] }]
def about1 : State := aboutOver below0
def p0 : Program := .bare "" "" ""
def e0 : Env := launch0.env 0 0 0
theorem w_frames : about1.frames = Frame.invoking theMethod args0 :: below0 := rfl
set_option maxRecDepth 65536 in
theorem w_args : argsFit about1.vm theMethod args0 = true := by decide +kernel
set_option maxRecDepth 65536 in
theorem w_heap : heapFits about1 = true := by decide +kernel
set_option maxRecDepth 65536 in
theorem w_runnable : about1.curStatus? = some .runnable := by decide +kernel
set_option maxRecDepth 65536 in
theorem w_alone : about1.alone = true := by decide +kernel
set_option maxRecDepth 65536 in
theorem w_named : about1.methodNamed? x = some theMethod := by decide +kernel
set_option maxRecDepth 65536 in
theorem w_hears : about1.hears theMethod below0 = true := by decide +kernel
set_option maxRecDepth 65536 in
theorem w_ripe : about1.ripe theMethod args0 below0 = true := by decide +kernel
theorem w_running : about1.status = .running := rfl
set_option maxRecDepth 65536 in
theorem w_room : about1.hasRoom e0.platform room_1 = true :=
  launch0.hasRoom_least _ room_1 (by decide +kernel) (by decide +kernel) (by decide +kernel) (by decide +kernel) (by decide +kernel) (by decide +kernel)
theorem allAtoms_all (ts : List Jvm.Cond) (a : Array Jvm.Value) (st : Jvm.State) : (allAtoms ts).before a st = ts.all (fun c => c.before a st) := by
  induction ts with
  | nil => rfl
  | cons c t ih =>
    show (Jvm.Cond.and c (allAtoms t)).before a st = _
    rw [Jvm.Cond.before_and, ih, List.all_cons]
def words1 : List Jvm.Cond := Jvm.Cond.code x code maxLocals ret :: tables_1
/-- a 'code' word, met by the world's own term for the bytes: nothing is compared byte by byte -/
theorem code_word {y : MethodName} {bytes : ByteArray} {mx : Nat} {rt : Option FieldType} {a : Array Value} {s : State} {m : MethodId} {meth : Method} {c : Code} (h1 : s.methodNamed? y = some m) (h2 : s.vm.method? m = some meth) (h3 : meth.code = some c) (h4 : c.code = bytes)
    (h5 : (c.maxLocals == mx && c.exceptionTable.isEmpty && decide (c.maxStack ≤ mostOperands) && decide (meth.sig.returnType = rt) && !meth.locks && decide (parseMethodDescriptor y.desc = some meth.sig)) = true) : (Jvm.Cond.code y bytes mx rt).before a s = true := by
  simp only [Bool.and_eq_true, beq_iff_eq, Bool.not_eq_true', decide_eq_true_eq] at h5
  obtain ⟨⟨⟨⟨⟨g1, g2⟩, g3⟩, g4⟩, g5⟩, g6⟩ := h5
  simp [Cond.before, Cond.holds, Cond.value, h1, h2, h3, h4, g1, g2, g3, g4, g5, g6]
def isCode : Jvm.Cond → Bool
  | .code _ _ _ _ => true
  | _ => false
theorem all_split {L : List Jvm.Cond} {P : Jvm.Cond → Bool} (h1 : L.all (fun c => isCode c || P c) = true) (h2 : ∀ c ∈ L.filter isCode, P c = true) : L.all P = true := by
  refine List.all_eq_true.mpr fun c hc => ?_
  have h := List.all_eq_true.mp h1 c hc
  rcases Bool.eq_false_or_eq_true (isCode c) with hi | hi
  · exact h2 c (List.mem_filter.mpr ⟨hc, hi⟩)
  · simpa [hi] using h
set_option maxRecDepth 65536 in
theorem w_c0 : (Jvm.Cond.code x code maxLocals ret).before args0 about1 = true := code_word (m := ⟨1, 4⟩) (meth := k1m4) (c := k1c4) (by decide +kernel) rfl rfl rfl (by decide +kernel)
set_option maxRecDepth 65536 in
theorem w_c1 : (Jvm.Cond.code ({ cls := "com/example/indexwright/indexwright/marketdata/KindOfPinLaw", name := "word", desc := "(IIC)[C" } : Jvm.MethodName) method_2_code (3 : Nat) (Option.some (Jvm.ClassFile.FieldType.array Jvm.ClassFile.FieldType.char))).before args0 about1 = true := code_word (m := ⟨1, 1⟩) (meth := k1m1) (c := k1c1) (by decide +kernel) rfl rfl rfl (by decide +kernel)
set_option maxRecDepth 65536 in
theorem w_c2 : (Jvm.Cond.code ({ cls := "java/lang/String", name := "<init>", desc := "([C)V" } : Jvm.MethodName) jdk_42_method_3_code (2 : Nat) (Option.none : Option Jvm.ClassFile.FieldType)).before args0 about1 = true := code_word (m := ⟨7, 1⟩) (meth := k7m1) (c := k7c1) (by decide +kernel) rfl rfl rfl (by decide +kernel)
set_option maxRecDepth 65536 in
theorem w_c3 : (Jvm.Cond.code ({ cls := "java/lang/String", name := "<init>", desc := "([CIILjava/lang/Void;)V" } : Jvm.MethodName) jdk_42_method_149_code (6 : Nat) (Option.none : Option Jvm.ClassFile.FieldType)).before args0 about1 = true := code_word (m := ⟨7, 3⟩) (meth := k7m3) (c := k7c3) (by decide +kernel) rfl rfl rfl (by decide +kernel)
set_option maxRecDepth 65536 in
theorem w_c4 : (Jvm.Cond.code ({ cls := "java/lang/Object", name := "<init>", desc := "()V" } : Jvm.MethodName) object_method_1_code (1 : Nat) (Option.none : Option Jvm.ClassFile.FieldType)).before args0 about1 = true := code_word (m := ⟨0, 0⟩) (meth := k0m0) (c := k0c0) (by decide +kernel) rfl rfl rfl (by decide +kernel)
set_option maxRecDepth 65536 in
theorem w_c5 : (Jvm.Cond.code ({ cls := "java/lang/StringUTF16", name := "compress", desc := "([CII)[B" } : Jvm.MethodName) jdk_52_method_16_code (6 : Nat) (Option.some (Jvm.ClassFile.FieldType.array Jvm.ClassFile.FieldType.byte))).before args0 about1 = true := code_word (m := ⟨8, 2⟩) (meth := k8m2) (c := k8c2) (by decide +kernel) rfl rfl rfl (by decide +kernel)
set_option maxRecDepth 65536 in
theorem w_c6 : (Jvm.Cond.code ({ cls := "java/lang/StringUTF16", name := "compress", desc := "([CI[BII)I" } : Jvm.MethodName) jdk_52_method_21_code (7 : Nat) (Option.some Jvm.ClassFile.FieldType.int)).before args0 about1 = true := code_word (m := ⟨8, 3⟩) (meth := k8m3) (c := k8c3) (by decide +kernel) rfl rfl rfl (by decide +kernel)
set_option maxRecDepth 65536 in
theorem w_c7 : (Jvm.Cond.code ({ cls := "java/lang/StringUTF16", name := "coderFromArrayLen", desc := "([BI)B" } : Jvm.MethodName) jdk_52_method_15_code (2 : Nat) (Option.some Jvm.ClassFile.FieldType.byte)).before args0 about1 = true := code_word (m := ⟨8, 1⟩) (meth := k8m1) (c := k8c1) (by decide +kernel) rfl rfl rfl (by decide +kernel)
set_option maxRecDepth 65536 in
theorem w_c8 : (Jvm.Cond.code ({ cls := "com/example/indexwright/indexwright/marketdata/ShareAdjustment$Kind", name := "of", desc := "(Ljava/lang/String;)Lcom/example/indexwright/indexwright/marketdata/ShareAdjustment$Kind;" } : Jvm.MethodName) prog_29_method_7_code (5 : Nat) (Option.some (Jvm.ClassFile.FieldType.object "com/example/indexwright/indexwright/marketdata/ShareAdjustment$Kind"))).before args0 about1 = true := code_word (m := ⟨10, 1⟩) (meth := k10m1) (c := k10c1) (by decide +kernel) rfl rfl rfl (by decide +kernel)
set_option maxRecDepth 65536 in
theorem w_c9 : (Jvm.Cond.code ({ cls := "com/example/indexwright/indexwright/marketdata/ShareAdjustment$Kind", name := "values", desc := "()[Lcom/example/indexwright/indexwright/marketdata/ShareAdjustment$Kind;" } : Jvm.MethodName) prog_29_method_1_code (0 : Nat) (Option.some (Jvm.ClassFile.FieldType.array (Jvm.ClassFile.FieldType.object "com/example/indexwright/indexwright/marketdata/ShareAdjustment$Kind")))).before args0 about1 = true := code_word (m := ⟨10, 0⟩) (meth := k10m0) (c := k10c0) (by decide +kernel) rfl rfl rfl (by decide +kernel)
set_option maxRecDepth 65536 in
theorem w_c10 : (Jvm.Cond.code ({ cls := "java/lang/String", name := "equals", desc := "(Ljava/lang/Object;)Z" } : Jvm.MethodName) jdk_42_method_66_code (3 : Nat) (Option.some Jvm.ClassFile.FieldType.boolean)).before args0 about1 = true := code_word (m := ⟨7, 2⟩) (meth := k7m2) (c := k7c2) (by decide +kernel) rfl rfl rfl (by decide +kernel)
set_option maxRecDepth 65536 in
theorem w_c11 : (Jvm.Cond.code ({ cls := "java/lang/StringLatin1", name := "equals", desc := "([B[B)Z" } : Jvm.MethodName) jdk_43_method_13_code (3 : Nat) (Option.some Jvm.ClassFile.FieldType.boolean)).before args0 about1 = true := code_word (m := ⟨12, 1⟩) (meth := k12m1) (c := k12c1) (by decide +kernel) rfl rfl rfl (by decide +kernel)
set_option maxRecDepth 65536 in
theorem w_c12 : (Jvm.Cond.code ({ cls := "com/example/indexwright/indexwright/marketdata/KindOfPinLaw", name := "expected", desc := "(Ljava/lang/String;)Lcom/example/indexwright/indexwright/marketdata/ShareAdjustment$Kind;" } : Jvm.MethodName) method_4_code (1 : Nat) (Option.some (Jvm.ClassFile.FieldType.object "com/example/indexwright/indexwright/marketdata/ShareAdjustment$Kind"))).before args0 about1 = true := code_word (m := ⟨1, 3⟩) (meth := k1m3) (c := k1c3) (by decide +kernel) rfl rfl rfl (by decide +kernel)
set_option maxRecDepth 65536 in
theorem w_c13 : (Jvm.Cond.code ({ cls := "com/example/indexwright/indexwright/marketdata/KindOfPinLaw", name := "drawn", desc := "(IIII)Ljava/lang/String;" } : Jvm.MethodName) method_3_code (8 : Nat) (Option.some (Jvm.ClassFile.FieldType.object "java/lang/String"))).before args0 about1 = true := code_word (m := ⟨1, 2⟩) (meth := k1m2) (c := k1c2) (by decide +kernel) rfl rfl rfl (by decide +kernel)
def codes1 : List Jvm.Cond := [Jvm.Cond.code x code maxLocals ret, Jvm.Cond.code ({ cls := "com/example/indexwright/indexwright/marketdata/KindOfPinLaw", name := "word", desc := "(IIC)[C" } : Jvm.MethodName) method_2_code (3 : Nat) (Option.some (Jvm.ClassFile.FieldType.array Jvm.ClassFile.FieldType.char)), Jvm.Cond.code ({ cls := "java/lang/String", name := "<init>", desc := "([C)V" } : Jvm.MethodName) jdk_42_method_3_code (2 : Nat) (Option.none : Option Jvm.ClassFile.FieldType), Jvm.Cond.code ({ cls := "java/lang/String", name := "<init>", desc := "([CIILjava/lang/Void;)V" } : Jvm.MethodName) jdk_42_method_149_code (6 : Nat) (Option.none : Option Jvm.ClassFile.FieldType), Jvm.Cond.code ({ cls := "java/lang/Object", name := "<init>", desc := "()V" } : Jvm.MethodName) object_method_1_code (1 : Nat) (Option.none : Option Jvm.ClassFile.FieldType), Jvm.Cond.code ({ cls := "java/lang/StringUTF16", name := "compress", desc := "([CII)[B" } : Jvm.MethodName) jdk_52_method_16_code (6 : Nat) (Option.some (Jvm.ClassFile.FieldType.array Jvm.ClassFile.FieldType.byte)), Jvm.Cond.code ({ cls := "java/lang/StringUTF16", name := "compress", desc := "([CI[BII)I" } : Jvm.MethodName) jdk_52_method_21_code (7 : Nat) (Option.some Jvm.ClassFile.FieldType.int), Jvm.Cond.code ({ cls := "java/lang/StringUTF16", name := "coderFromArrayLen", desc := "([BI)B" } : Jvm.MethodName) jdk_52_method_15_code (2 : Nat) (Option.some Jvm.ClassFile.FieldType.byte), Jvm.Cond.code ({ cls := "com/example/indexwright/indexwright/marketdata/ShareAdjustment$Kind", name := "of", desc := "(Ljava/lang/String;)Lcom/example/indexwright/indexwright/marketdata/ShareAdjustment$Kind;" } : Jvm.MethodName) prog_29_method_7_code (5 : Nat) (Option.some (Jvm.ClassFile.FieldType.object "com/example/indexwright/indexwright/marketdata/ShareAdjustment$Kind")), Jvm.Cond.code ({ cls := "com/example/indexwright/indexwright/marketdata/ShareAdjustment$Kind", name := "values", desc := "()[Lcom/example/indexwright/indexwright/marketdata/ShareAdjustment$Kind;" } : Jvm.MethodName) prog_29_method_1_code (0 : Nat) (Option.some (Jvm.ClassFile.FieldType.array (Jvm.ClassFile.FieldType.object "com/example/indexwright/indexwright/marketdata/ShareAdjustment$Kind"))), Jvm.Cond.code ({ cls := "java/lang/String", name := "equals", desc := "(Ljava/lang/Object;)Z" } : Jvm.MethodName) jdk_42_method_66_code (3 : Nat) (Option.some Jvm.ClassFile.FieldType.boolean), Jvm.Cond.code ({ cls := "java/lang/StringLatin1", name := "equals", desc := "([B[B)Z" } : Jvm.MethodName) jdk_43_method_13_code (3 : Nat) (Option.some Jvm.ClassFile.FieldType.boolean), Jvm.Cond.code ({ cls := "com/example/indexwright/indexwright/marketdata/KindOfPinLaw", name := "expected", desc := "(Ljava/lang/String;)Lcom/example/indexwright/indexwright/marketdata/ShareAdjustment$Kind;" } : Jvm.MethodName) method_4_code (1 : Nat) (Option.some (Jvm.ClassFile.FieldType.object "com/example/indexwright/indexwright/marketdata/ShareAdjustment$Kind")), Jvm.Cond.code ({ cls := "com/example/indexwright/indexwright/marketdata/KindOfPinLaw", name := "drawn", desc := "(IIII)Ljava/lang/String;" } : Jvm.MethodName) method_3_code (8 : Nat) (Option.some (Jvm.ClassFile.FieldType.object "java/lang/String"))]
set_option maxRecDepth 65536 in
theorem codes_eq : words1.filter isCode = codes1 := rfl
theorem w_codes : ∀ c ∈ words1.filter isCode, c.before args0 about1 = true := by
  rw [codes_eq]
  intro c hc
  simp only [codes1, List.mem_cons, List.not_mem_nil, or_false] at hc
  rcases hc with rfl | rfl | rfl | rfl | rfl | rfl | rfl | rfl | rfl | rfl | rfl | rfl | rfl | rfl
  · exact w_c0
  · exact w_c1
  · exact w_c2
  · exact w_c3
  · exact w_c4
  · exact w_c5
  · exact w_c6
  · exact w_c7
  · exact w_c8
  · exact w_c9
  · exact w_c10
  · exact w_c11
  · exact w_c12
  · exact w_c13
set_option maxRecDepth 65536 in
theorem w_t1 : (words1.take 24).all (fun c => isCode c || c.before args0 about1) = true := by decide +kernel
set_option maxRecDepth 65536 in
theorem w_t2 : ((words1.drop 24).take 24).all (fun c => isCode c || c.before args0 about1) = true := by decide +kernel
set_option maxRecDepth 65536 in
theorem w_t3 : (((words1.drop 24).drop 24).take 24).all (fun c => isCode c || c.before args0 about1) = true := by decide +kernel
set_option maxRecDepth 65536 in
theorem w_t4 : (((words1.drop 24).drop 24).drop 24).all (fun c => isCode c || c.before args0 about1) = true := by decide +kernel
theorem w_tables : (allAtoms (Jvm.Cond.code x code maxLocals ret :: tables_1)).before args0 about1 = true := by
  rw [allAtoms_all]
  show words1.all (fun c => c.before args0 about1) = true
  refine all_split ?_ w_codes
  rw [← List.take_append_drop 24 words1, List.all_append, w_t1, ← List.take_append_drop 24 (words1.drop 24), List.all_append, w_t2, ← List.take_append_drop 24 ((words1.drop 24).drop 24), List.all_append, w_t3, w_t4]
  rfl
set_option maxRecDepth 65536 in
theorem w_rest : rest_1_c.before args0 about1 = true := by decide +kernel
set_option maxRecDepth 65536 in
theorem w_case : (Jvm.Cond.and given_1 narrow_1).before args0 about1 = true := by decide +kernel
set_option maxRecDepth 65536 in
theorem w_consts : constsHeld consts_1 about1 := Jvm.Lit.constsHeldB_iff.mp (by decide +kernel)
theorem w_applies : (headSpec (Jvm.Cond.code x code maxLocals ret :: tables_1) room_1).applies x e0.platform about1 = true :=
  (Spec.applies_iff w_frames).mpr ⟨w_running, w_runnable, w_alone, w_named, w_hears, w_ripe, w_room, w_tables⟩
theorem atStart : AtStart classFile x code maxLocals ret World_1 tables_1 room_1 Calls_1 rest_1 Pre_1 launch0 p0 e0 about1 theMethod args0 below0 :=
  ⟨lists_1, trivial, launch0.admits_env _ _ _, launch0.least_env, fairChoices_fair.cas, fairChoices_fair.clock, w_frames, w_args, w_heap, w_applies, ⟨w_consts, trivial⟩, w_rest, w_case⟩
end start1
theorem witness_1 : WitnessClaimed_1 := ⟨start1.p0, start1.e0, start1.about1, start1.theMethod, start1.args0, start1.below0, start1.atStart⟩
end Jvm.Pilot.@@N@@
