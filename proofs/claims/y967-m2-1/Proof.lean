import JvmDerived
import JvmDerived.Pilot.@@N@@Statement
import JvmDerived.Pilot.@@N@@Code
set_option linter.unusedVariables false
set_option linter.unusedSimpArgs false
/- laws to paste: Road.backV (cut by pick.py; bodies as the Statement names them) -/
namespace Jvm.Pilot.@@N@@
namespace StrChars
open Jvm Sem ClassFile Op Lib Jvm.Stand Jvm.Free.XT Jvm.Free.ALB Jvm.Free.JM Jvm.Free
open Jvm.Lib.Cold (StaticIs)
/-- a char array whose places are chars -/
def Ch (a : Addr) (A : Cell) (U : State) : Prop := Arr .char a A U ∧ Typed .char A
theorem Ch.mv {a : Addr} {A : Cell} {U U' : State} (h : Ch a A U) (hal : U.vm.Alike U'.vm) (hh : U'.heap = U.heap) : Ch a A U' := ⟨h.1.mv hal hh, h.2⟩
theorem Ch.keep {a : Addr} {A : Cell} {U U' : State} (h : Ch a A U) (hal : U.vm.Alike U'.vm) (hk : U'.heap[a]? = some A) : Ch a A U' := ⟨h.1.keep hal hk, h.2⟩
/-- what place i of a char[]'s cell holds -/
def cv (A : Cell) (i : Nat) : Int32 := match A.slots[i]? with | some (.int x) => x | _ => 0
theorem Ch.get {a : Addr} {A : Cell} {U : State} (h : Ch a A U) {i : Nat} (hi : i < A.slots.size) : A.slots[i]? = some (.int (cv A i)) := by
  have e := Array.getElem?_eq_getElem hi
  have f := h.2 i _ e
  unfold cv; rw [e]
  generalize A.slots[i] = v at f
  cases v <;> simp [fits] at f ⊢
/-- the byte that i2b leaves of a char -/
def lo8 (x : Int32) : Int32 := x.toInt8.toInt32
theorem fits_lo8 (y : Int32) : fits .byte (.int (lo8 y)) = true := by
  have h1 := y.toInt8.le_toInt
  have h2 := y.toInt8.toInt_lt
  simp only [lo8, fits, Bool.and_eq_true, decide_eq_true_eq, Int32.le_iff_toInt_le, Int8.toInt_toInt32, show (-128 : Int32).toInt = -128 from by decide, show (127 : Int32).toInt = 127 from by decide]
  omega
/-- A' is A but that each place j of lo .. hi - 1 holds f j -/
def Laid (A A' : Cell) (lo hi : Nat) (f : Nat → Value) : Prop := A'.cls = A.cls ∧ A'.vm = A.vm ∧ A'.slots.size = A.slots.size ∧ ∀ i, A'.slots[i]? = if lo ≤ i ∧ i < hi then some (f i) else A.slots[i]?
theorem Laid.zero (A : Cell) (lo : Nat) (f : Nat → Value) : Laid A A lo (lo + 0) f := ⟨rfl, rfl, rfl, fun i => by rw [if_neg (by omega)]⟩
theorem Laid.step {A Ak : Cell} {lo k : Nat} {f : Nat → Value} {v : Value} (h : Laid A Ak lo k f) (hlo : lo ≤ k) (hk : k < Ak.slots.size) (hv : v = f k) : Laid A (Ak.setSlot k v) lo (k + 1) f := by
  refine ⟨h.1, h.2.1, by simpa [Cell.setSlot] using h.2.2.1, fun i => ?_⟩
  by_cases e : k = i
  · subst e; rw [Cell.slots_setSlot_self v hk, if_pos (by omega), hv]
  · rw [Cell.slots_setSlot_ne v e, h.2.2.2 i]
    by_cases q : lo ≤ i ∧ i < k
    · rw [if_pos q, if_pos (by omega)]
    · rw [if_neg q, if_neg (by omega)]
def U16 : String := "java/lang/StringUTF16"
namespace Cmp5
def yN : MethodName := ⟨"java/lang/StringUTF16", "compress", "([CI[BII)I"⟩
abbrev yB : ByteArray := jdk_52_method_21_code
theorem d0 : decode yB 0 = .ok (.iconst 0, 1) := by decide +kernel
theorem d1 : decode yB 1 = .ok (.istore 5, 2) := by decide +kernel
theorem d3 : decode yB 3 = .ok (.iload 5, 2) := by decide +kernel
theorem d5 : decode yB 5 = .ok (.iload 4, 2) := by decide +kernel
theorem d7 : decode yB 7 = .ok (.if_icmp (.ge) 37, 3) := by decide +kernel
theorem d10 : decode yB 10 = .ok (.aload_n 0, 1) := by decide +kernel
theorem d11 : decode yB 11 = .ok (.iload_n 1, 1) := by decide +kernel
theorem d12 : decode yB 12 = .ok (.caload, 1) := by decide +kernel
theorem d13 : decode yB 13 = .ok (.istore 6, 2) := by decide +kernel
theorem d15 : decode yB 15 = .ok (.iload 6, 2) := by decide +kernel
theorem d17 : decode yB 17 = .ok (.sipush 255, 3) := by decide +kernel
theorem d20 : decode yB 20 = .ok (.if_icmp (.le) 6, 3) := by decide +kernel
theorem d26 : decode yB 26 = .ok (.aload_n 2, 1) := by decide +kernel
theorem d27 : decode yB 27 = .ok (.iload_n 3, 1) := by decide +kernel
theorem d28 : decode yB 28 = .ok (.iload 6, 2) := by decide +kernel
theorem d30 : decode yB 30 = .ok (.i2b, 1) := by decide +kernel
theorem d31 : decode yB 31 = .ok (.bastore, 1) := by decide +kernel
theorem d32 : decode yB 32 = .ok (.iinc 1 1, 3) := by decide +kernel
theorem d35 : decode yB 35 = .ok (.iinc 3 1, 3) := by decide +kernel
theorem d38 : decode yB 38 = .ok (.iinc 5 1, 3) := by decide +kernel
theorem d41 : decode yB 41 = .ok (.goto (-38), 3) := by decide +kernel
theorem d44 : decode yB 44 = .ok (.iload 4, 2) := by decide +kernel
theorem d46 : decode yB 46 = .ok (.ireturn, 1) := by decide +kernel
def site : List Cond := []
def tab : Cond := tabOf yN yB 7 (some .int) site
def P (b : Addr) (A : Cell) (d : Addr) (B : Cell) (o q len : Nat) (args : Array Value) (s : State) : Prop := args = #[.ref b, .int (Int32.ofNat o), .ref d, .int (Int32.ofNat q), .int (Int32.ofNat len)] ∧ Ch b A s ∧ Arr .byte d B s ∧ b ≠ d ∧ o + len ≤ A.slots.size ∧ q + len ≤ B.slots.size ∧ ∀ i, i < len → ¬ 255 < cv A (o + i)
def E (b : Addr) (A : Cell) (d : Addr) (B : Cell) (o q len : Nat) (r : Option Value) (s u : State) : Prop := r = some (.int (Int32.ofNat len)) ∧ ∃ B', Put d B' s u ∧ Laid B B' q (q + len) (fun j => Value.int (lo8 (cv A (o + (j - q)))))
/-- no char of the range above 255: len; the places written hold each char's low byte -/
theorem law (l : Launch) (b : Addr) (A : Cell) (d : Addr) (B : Cell) (o q len : Nat) : Law l yN 5 5 0 0 yB 7 (some .int) site (P b A d B o q len) (E b A d B o q len) (copyLocs d q len) 0 0 := by
  refine Law.of_walk (plainFor_of_name (by decide +kernel)) (by decide +kernel) (by decide +kernel) (by decide) (fun _ _ h => by rw [h.1]; rfl) (fun _ U U' hal hh h => ⟨h.1, h.2.1.mv hal hh, h.2.2.1.mv hal hh, h.2.2.2⟩) (fun r U U' V V' h1 hal h2 h => ⟨h.1, h.2.elim fun B' q => ⟨B', q.1.mv h1 h2, q.2⟩⟩) ?_
  intro p e s m args below meth c s₁ X0 hexec hbytes hml hret hlk hnm hown hh0 W hP
  obtain ⟨rfl, hA, hB, hne, l1, l2, hp⟩ := hP
  have c1 : Steps p.tables e below (s₁.setTop (entryFrame m #[.ref b, .int (Int32.ofNat o), .ref d, .int (Int32.ofNat q), .int (Int32.ofNat len)] 7)) (s₁.setTop (mkF m 0 #[.val (.ref b), .val (.int (Int32.ofNat o)), .val (.ref d), .val (.int (Int32.ofNat q)), .val (.int (Int32.ofNat len)), .unset, .unset] [])) := entry rfl
  have hA0 := hA.1.mv X0.warmed.alike hh0
  have hB0 := hB.mv X0.warmed.alike hh0
  have a31 := hA.1.2.2.2
  have c2 : Steps p.tables e below (s₁.setTop (entryFrame m #[.ref b, .int (Int32.ofNat o), .ref d, .int (Int32.ofNat q), .int (Int32.ofNat len)] 7)) (s₁.setTop (mkF m 3 #[.val (.ref b), .val (.int (Int32.ofNat o)), .val (.ref d), .val (.int (Int32.ofNat q)), .val (.int (Int32.ofNat len)), .val (.int 0), .unset] [])) := c1.trans (by
    refine iconstV X0.here hexec rfl 0 (hb hbytes d0) (by decide) ?_
    refine XS.istore X0.here hexec rfl (hb hbytes d1) rfl rfl ?_
    exact Steps.refl _)
  have loop : ∀ (r i : Nat), i + r = len → ∀ (z : Slot), (z = .unset ∨ ∃ w, z = .val w ∧ w.category = 1) → ∀ (Tl : State) (Bk : Cell), Stand p l e { frames := 0, locals := 0, cells := 0, slots := 0 } s m #[.ref b, .int (Int32.ofNat o), .ref d, .int (Int32.ofNat q), .int (Int32.ofNat len)] below meth c Tl ([] ++ copyLocs d q i) 0 0 → Put d Bk s₁ Tl → Laid B Bk q (q + i) (fun j => Value.int (lo8 (cv A (o + (j - q))))) →
      Steps p.tables e below (s₁.setTop (entryFrame m #[.ref b, .int (Int32.ofNat o), .ref d, .int (Int32.ofNat q), .int (Int32.ofNat len)] 7)) (Tl.setTop (mkF m 3 #[.val (.ref b), .val (.int (Int32.ofNat (o + i))), .val (.ref d), .val (.int (Int32.ofNat (q + i))), .val (.int (Int32.ofNat len)), .val (.int (Int32.ofNat i)), z] [])) → ∃ (T' : State) (B' : Cell) (z' : Slot), Stand p l e { frames := 0, locals := 0, cells := 0, slots := 0 } s m #[.ref b, .int (Int32.ofNat o), .ref d, .int (Int32.ofNat q), .int (Int32.ofNat len)] below meth c T' ([] ++ copyLocs d q len) 0 0 ∧ Put d B' s₁ T' ∧ Laid B B' q (q + len) (fun j => Value.int (lo8 (cv A (o + (j - q))))) ∧
      Steps p.tables e below (s₁.setTop (entryFrame m #[.ref b, .int (Int32.ofNat o), .ref d, .int (Int32.ofNat q), .int (Int32.ofNat len)] 7)) (T'.setTop (mkF m 3 #[.val (.ref b), .val (.int (Int32.ofNat (o + len))), .val (.ref d), .val (.int (Int32.ofNat (q + len))), .val (.int (Int32.ofNat len)), .val (.int (Int32.ofNat len)), z'] [])) := by
    intro r
    induction r with
    | zero =>
      intro i hi z hz Tl Bk Xl pl fl cl
      have hil : i = len := by omega
      rw [hil] at Xl fl cl
      exact ⟨Tl, Bk, z, Xl, pl, fl, cl⟩
    | succ r ih =>
      intro i hi z hz Tl Bk Xl pl fl cl
      have all := X0.warmed.alike.symm.trans Xl.warmed.alike
      have hAl := hA0.keep all (pl.other hne hA0.1)
      have hBk := hB0.like all pl.1 fl.1 fl.2.1 fl.2.2.1
      have hlt : q + i < Bk.slots.size := by rw [fl.2.2.1]; omega
      have c3 : Steps p.tables e below (s₁.setTop (entryFrame m #[.ref b, .int (Int32.ofNat o), .ref d, .int (Int32.ofNat q), .int (Int32.ofNat len)] 7)) (Tl.setTop (mkF m 12 #[.val (.ref b), .val (.int (Int32.ofNat (o + i))), .val (.ref d), .val (.int (Int32.ofNat (q + i))), .val (.int (Int32.ofNat len)), .val (.int (Int32.ofNat i)), z] [.int (Int32.ofNat (o + i)), .ref b])) := cl.trans (by
        refine XS.iload Xl.here hexec rfl (hb hbytes d3) rfl ?_
        refine XS.iload Xl.here hexec rfl (hb hbytes d5) rfl ?_
        refine XS.icmpNo Xl.here hexec rfl (hb hbytes d7) rfl (ii_ge_f (lt32 (by omega) (by omega))) ?_
        refine XS.aloadN Xl.here hexec rfl (hb hbytes d10) rfl rfl ?_
        refine XS.iloadN Xl.here hexec rfl (hb hbytes d11) rfl ?_
        exact Steps.refl _)
      have c4 : Steps p.tables e below (s₁.setTop (entryFrame m #[.ref b, .int (Int32.ofNat o), .ref d, .int (Int32.ofNat q), .int (Int32.ofNat len)] 7)) (Tl.setTop (mkF m 13 #[.val (.ref b), .val (.int (Int32.ofNat (o + i))), .val (.ref d), .val (.int (Int32.ofNat (q + i))), .val (.int (Int32.ofNat len)), .val (.int (Int32.ofNat i)), z] [.int (cv A (o + i))])) := c3.trans (by
        refine Xl.aget hexec hAl rfl (hA.get (i := o + i) (by omega)) rfl rfl (hb hbytes d12) ?_
        exact Steps.refl _)
      have c5 : Steps p.tables e below (s₁.setTop (entryFrame m #[.ref b, .int (Int32.ofNat o), .ref d, .int (Int32.ofNat q), .int (Int32.ofNat len)] 7)) (Tl.setTop (mkF m 15 #[.val (.ref b), .val (.int (Int32.ofNat (o + i))), .val (.ref d), .val (.int (Int32.ofNat (q + i))), .val (.int (Int32.ofNat len)), .val (.int (Int32.ofNat i)), .val (.int (cv A (o + i)))] [])) := c4.trans (by
        refine XS.istoreS Xl.here hexec rfl (hb hbytes d13) rfl rfl hz ?_
        exact Steps.refl _)
      have c6 : Steps p.tables e below (s₁.setTop (entryFrame m #[.ref b, .int (Int32.ofNat o), .ref d, .int (Int32.ofNat q), .int (Int32.ofNat len)] 7)) (Tl.setTop (mkF m 31 #[.val (.ref b), .val (.int (Int32.ofNat (o + i))), .val (.ref d), .val (.int (Int32.ofNat (q + i))), .val (.int (Int32.ofNat len)), .val (.int (Int32.ofNat i)), .val (.int (cv A (o + i)))] [.int (lo8 (cv A (o + i))), .int (Int32.ofNat (q + i)), .ref d])) := c5.trans (by
        refine XS.iload Xl.here hexec rfl (hb hbytes d15) rfl ?_
        refine sipushV Xl.here hexec rfl 255 (hb hbytes d17) (by decide) ?_
        refine XS.icmpYes Xl.here hexec rfl (pc0 := 20) rfl (hb hbytes d20) rfl (ii_le_t (hp i (by omega))) (by decide) rfl ?_
        refine XS.aloadN Xl.here hexec rfl (hb hbytes d26) rfl rfl ?_
        refine XS.iloadN Xl.here hexec rfl (hb hbytes d27) rfl ?_
        refine XS.iload Xl.here hexec rfl (hb hbytes d28) rfl ?_
        refine i2b Xl.here hexec rfl (hb hbytes d30) rfl ?_
        exact Steps.refl _)
      obtain ⟨T7, X7, p7, st7⟩ := Xl.aput hexec hBk rfl hlt rfl (fits_lo8 (cv A (o + i))) (g := (mkF m 31 #[.val (.ref b), .val (.int (Int32.ofNat (o + i))), .val (.ref d), .val (.int (Int32.ofNat (q + i))), .val (.int (Int32.ofNat len)), .val (.int (Int32.ofNat i)), .val (.int (cv A (o + i)))] [.int (lo8 (cv A (o + i))), .int (Int32.ofNat (q + i)), .ref d])) rfl (rest := []) rfl (hb hbytes d31)
      have c8 : Steps p.tables e below (s₁.setTop (entryFrame m #[.ref b, .int (Int32.ofNat o), .ref d, .int (Int32.ofNat q), .int (Int32.ofNat len)] 7)) (T7.setTop (mkF m 32 #[.val (.ref b), .val (.int (Int32.ofNat (o + i))), .val (.ref d), .val (.int (Int32.ofNat (q + i))), .val (.int (Int32.ofNat len)), .val (.int (Int32.ofNat i)), .val (.int (cv A (o + i)))] [])) := c6.trans (st7 _ (Steps.refl _))
      have c9 : Steps p.tables e below (s₁.setTop (entryFrame m #[.ref b, .int (Int32.ofNat o), .ref d, .int (Int32.ofNat q), .int (Int32.ofNat len)] 7)) (T7.setTop (mkF m 3 #[.val (.ref b), .val (.int (Int32.ofNat (o + i) + 1)), .val (.ref d), .val (.int (Int32.ofNat (q + i) + 1)), .val (.int (Int32.ofNat len)), .val (.int (Int32.ofNat i + 1)), .val (.int (cv A (o + i)))] [])) := c8.trans (by
        refine iincV X7.here hexec rfl 1 (hb hbytes d32) (by decide) rfl rfl ?_
        refine iincV X7.here hexec rfl 1 (hb hbytes d35) (by decide) rfl rfl ?_
        refine iincV X7.here hexec rfl 1 (hb hbytes d38) (by decide) rfl rfl ?_
        refine XS.goto X7.here hexec rfl (pc0 := 41) rfl (hb hbytes d41) (by decide) rfl ?_
        exact Steps.refl _)
      have c10 : Steps p.tables e below (s₁.setTop (entryFrame m #[.ref b, .int (Int32.ofNat o), .ref d, .int (Int32.ofNat q), .int (Int32.ofNat len)] 7)) (T7.setTop (mkF m 3 #[.val (.ref b), .val (.int (Int32.ofNat (o + (i + 1)))), .val (.ref d), .val (.int (Int32.ofNat (q + (i + 1)))), .val (.int (Int32.ofNat len)), .val (.int (Int32.ofNat (i + 1))), .val (.int (cv A (o + i)))] [])) := by
        have := c9
        rw [succ32, succ32, succ32] at this
        exact this
      exact ih (i + 1) (by omega) _ (Or.inr ⟨_, rfl, rfl⟩) T7 _ (by rw [copyLocs_step, ← List.append_assoc]; exact X7) (pl.trans p7) (fl.step (by omega) hlt (by simp)) c10
  obtain ⟨T9, B9, z9, X9, p9, f9, g9⟩ := loop len 0 (by omega) .unset (Or.inl rfl) s₁ B (by simpa [copyLocs] using X0) ⟨hB0.1, fun _ _ => rfl, rfl⟩ (Laid.zero _ _ _) c2
  have c11 : Steps p.tables e below (s₁.setTop (entryFrame m #[.ref b, .int (Int32.ofNat o), .ref d, .int (Int32.ofNat q), .int (Int32.ofNat len)] 7)) (T9.setTop (mkF m 46 #[.val (.ref b), .val (.int (Int32.ofNat (o + len))), .val (.ref d), .val (.int (Int32.ofNat (q + len))), .val (.int (Int32.ofNat len)), .val (.int (Int32.ofNat len)), z9] [.int (Int32.ofNat len)])) := g9.trans (by
    refine XS.iload X9.here hexec rfl (hb hbytes d3) rfl ?_
    refine XS.iload X9.here hexec rfl (hb hbytes d5) rfl ?_
    refine XS.icmpYes X9.here hexec rfl (pc0 := 7) rfl (hb hbytes d7) rfl (ii_ge_t (nlt32 (by omega) (Nat.le_refl _))) (by decide) rfl ?_
    refine XS.iload X9.here hexec rfl (hb hbytes d44) rfl ?_
    exact Steps.refl _)
  exact ⟨T9, some (.int (Int32.ofNat len)), _, _, _, X9, by simp, rfl, rfl, (fun h => by cases h), ⟨rfl, B9, p9.from hh0, f9⟩, fun fs hl => c11.trans (X9.ireturnOut hexec hret rfl (Or.inl rfl) (hb hbytes d46) hl)⟩
end Cmp5
namespace Cmp3
def yN : MethodName := ⟨"java/lang/StringUTF16", "compress", "([CII)[B"⟩
abbrev yB : ByteArray := jdk_52_method_16_code
theorem d0 : decode yB 0 = .ok (.iload_n 2, 1) := by decide +kernel
theorem d1 : decode yB 1 = .ok (.newarray .byte, 2) := by decide +kernel
theorem d3 : decode yB 3 = .ok (.astore_n 3, 1) := by decide +kernel
theorem d4 : decode yB 4 = .ok (.aload_n 0, 1) := by decide +kernel
theorem d5 : decode yB 5 = .ok (.iload_n 1, 1) := by decide +kernel
theorem d6 : decode yB 6 = .ok (.aload_n 3, 1) := by decide +kernel
theorem d7 : decode yB 7 = .ok (.iconst 0, 1) := by decide +kernel
theorem d8 : decode yB 8 = .ok (.iload_n 2, 1) := by decide +kernel
theorem d9 : decode yB 9 = .ok (.invokestatic 115, 3) := by decide +kernel
theorem d12 : decode yB 12 = .ok (.istore 4, 2) := by decide +kernel
theorem d14 : decode yB 14 = .ok (.iload 4, 2) := by decide +kernel
theorem d16 : decode yB 16 = .ok (.iload_n 2, 1) := by decide +kernel
theorem d17 : decode yB 17 = .ok (.if_icmp (.eq) 40, 3) := by decide +kernel
theorem d57 : decode yB 57 = .ok (.aload_n 3, 1) := by decide +kernel
theorem d58 : decode yB 58 = .ok (.areturn, 1) := by decide +kernel
def site : List Cond := [.arrayClass .byte, Cmp5.tab] ++ staticW U16 115 Cmp5.yN
def tab : Cond := tabOf yN yB 6 (some (.array .byte)) site
def P (b : Addr) (A : Cell) (o len : Nat) (args : Array Value) (s : State) : Prop := args = #[.ref b, .int (Int32.ofNat o), .int (Int32.ofNat len)] ∧ Ch b A s ∧ o + len ≤ A.slots.size ∧ len ≤ 536870912 ∧ ∀ i, i < len → ¬ 255 < cv A (o + i)
def E (b : Addr) (A : Cell) (o len : Nat) (r : Option Value) (s u : State) : Prop := NewArr .byte "[B" len (fun j => .int (lo8 (cv A (o + j)))) r s u ∧ u.heap.size = s.heap.size + 1
/-- no char of the range above 255: a new byte[] of their low bytes -/
theorem law (l : Launch) (b : Addr) (A : Cell) (o len : Nat) : Law l yN 3 3 1 18 yB 6 (some (.array .byte)) site (P b A o len) (E b A o len) [] 1 len := by
  refine Law.of_walk (plainFor_of_name (by decide +kernel)) (by decide +kernel) (by decide +kernel) (by decide) (fun _ _ h => by rw [h.1]; rfl) (fun _ U U' hal hh h => ⟨h.1, h.2.1.mv hal hh, h.2.2⟩) (fun r U U' V V' h1 hal h2 h => ⟨NewArr.mv r U U' V V' h1 hal h2 h.1, by rw [h1, h2]; exact h.2⟩) ?_
  intro p e s m args below meth c s₁ X0 hexec hbytes hml hret hlk hnm hown hh0 W hP
  obtain ⟨rfl, hA, l1, l2, hp⟩ := hP
  have a31 := hA.1.2.2.2
  have c1 : Steps p.tables e below (s₁.setTop (entryFrame m #[.ref b, .int (Int32.ofNat o), .int (Int32.ofNat len)] 6)) (s₁.setTop (mkF m 0 #[.val (.ref b), .val (.int (Int32.ofNat o)), .val (.int (Int32.ofNat len)), .unset, .unset, .unset] [])) := entry rfl
  have c2 : Steps p.tables e below (s₁.setTop (entryFrame m #[.ref b, .int (Int32.ofNat o), .int (Int32.ofNat len)] 6)) (s₁.setTop (mkF m 1 #[.val (.ref b), .val (.int (Int32.ofNat o)), .val (.int (Int32.ofNat len)), .unset, .unset, .unset] [.int (Int32.ofNat len)])) := c1.trans (by
    refine XS.iloadN X0.here hexec rfl (hb hbytes d0) rfl ?_
    exact Steps.refl _)
  obtain ⟨T3, B3, X3, ba3, bs3, bv3, bh3, bf3, st3⟩ := X0.anew hexec (atype := .byte) (wk W (.arrayClass .byte)) rfl (by show len * 1 ≤ _; omega) (by omega) (g := (mkF m 1 #[.val (.ref b), .val (.int (Int32.ofNat o)), .val (.int (Int32.ofNat len)), .unset, .unset, .unset] [.int (Int32.ofNat len)])) rfl (hb hbytes d1) (rest := []) rfl (Nat.le_refl _) (by show 0 + len ≤ len; omega)
  rw [hh0] at ba3 st3
  have kp3 : XT.Kept s T3 := (XT.Kept.of_eq hh0).push bh3
  have hA3 := hA.keep X3.warmed.alike (kp3 _ _ hA.1.1)
  have hne : b ≠ s.heap.size := hA.1.ne
  have c4 : Steps p.tables e below (s₁.setTop (entryFrame m #[.ref b, .int (Int32.ofNat o), .int (Int32.ofNat len)] 6)) (T3.setTop (mkF m 3 #[.val (.ref b), .val (.int (Int32.ofNat o)), .val (.int (Int32.ofNat len)), .unset, .unset, .unset] [.ref s.heap.size])) := c2.trans (st3 _ (Steps.refl _))
  have c5 : Steps p.tables e below (s₁.setTop (entryFrame m #[.ref b, .int (Int32.ofNat o), .int (Int32.ofNat len)] 6)) (T3.setTop (mkF m 9 #[.val (.ref b), .val (.int (Int32.ofNat o)), .val (.int (Int32.ofNat len)), .val (.ref s.heap.size), .unset, .unset] [.int (Int32.ofNat len), .int 0, .ref s.heap.size, .int (Int32.ofNat o), .ref b])) := c4.trans (by
    refine XS.astoreN X3.here hexec rfl (hb hbytes d3) rfl rfl rfl ?_
    refine XS.aloadN X3.here hexec rfl (hb hbytes d4) rfl rfl ?_
    refine XS.iloadN X3.here hexec rfl (hb hbytes d5) rfl ?_
    refine XS.aloadN X3.here hexec rfl (hb hbytes d6) rfl rfl ?_
    refine iconstV X3.here hexec rfl 0 (hb hbytes d7) (by decide) ?_
    refine XS.iloadN X3.here hexec rfl (hb hbytes d8) rfl ?_
    exact Steps.refl _)
  obtain ⟨v6, T6, X6, E6, g6⟩ := X3.callS hexec (Cmp5.law l b A s.heap.size B3 o 0 len) hown (wks W (staticW U16 115 Cmp5.yN)) (wk W Cmp5.tab) (W := 0) (Nat.le_of_ble_eq_true rfl) (Nat.le_of_ble_eq_true rfl) (Nat.le_refl _) (by show 0 + len + 0 ≤ len; omega) (g := (mkF m 9 #[.val (.ref b), .val (.int (Int32.ofNat o)), .val (.int (Int32.ofNat len)), .val (.ref s.heap.size), .unset, .unset] [.int (Int32.ofNat len), .int (Int32.ofNat 0), .ref s.heap.size, .int (Int32.ofNat o), .ref b])) rfl (by rw [hml]; rfl) c5 (argsL := [.ref b, .int (Int32.ofNat o), .ref s.heap.size, .int (Int32.ofNat 0), .int (Int32.ofNat len)]) (rest := []) rfl rfl (by show 2 * 0 + 0 ≤ _; decide) (hb hbytes d9) (⟨rfl, hA3, ba3, hne, l1, by rw [bs3]; simp, hp⟩)
  obtain ⟨rfl, B6, p6, f6⟩ := E6
  have c7 : Steps p.tables e below (s₁.setTop (entryFrame m #[.ref b, .int (Int32.ofNat o), .int (Int32.ofNat len)] 6)) (T6.setTop (mkF m 12 #[.val (.ref b), .val (.int (Int32.ofNat o)), .val (.int (Int32.ofNat len)), .val (.ref s.heap.size), .unset, .unset] [.int (Int32.ofNat len)])) := g6
  have c8 : Steps p.tables e below (s₁.setTop (entryFrame m #[.ref b, .int (Int32.ofNat o), .int (Int32.ofNat len)] 6)) (T6.setTop (mkF m 58 #[.val (.ref b), .val (.int (Int32.ofNat o)), .val (.int (Int32.ofNat len)), .val (.ref s.heap.size), .val (.int (Int32.ofNat len)), .unset] [.ref s.heap.size])) := c7.trans (by
    refine XS.istore X6.here hexec rfl (hb hbytes d12) rfl rfl ?_
    refine XS.iload X6.here hexec rfl (hb hbytes d14) rfl ?_
    refine XS.iloadN X6.here hexec rfl (hb hbytes d16) rfl ?_
    refine XS.icmpYes X6.here hexec rfl (pc0 := 17) rfl (hb hbytes d17) rfl (ii_eq_t rfl) (by decide) rfl ?_
    refine XS.aloadN X6.here hexec rfl (hb hbytes d57) rfl rfl ?_
    exact Steps.refl _)
  have X8 := X6.wide (L' := []) (cells' := 1) (slots' := len) (fun x hx hlt => by
    simp only [List.nil_append, copyLocs, List.mem_map, List.mem_range] at hx
    obtain ⟨i, -, rfl⟩ := hx
    exact absurd hlt (Nat.lt_irrefl _)) (Nat.le_refl _) (by omega)
  exact ⟨T6, some (.ref s.heap.size), _, _, _, X8, rfl, rfl, rfl, (fun h => by cases h), ⟨⟨rfl, B6, ba3.like (X3.warmed.alike.symm.trans X6.warmed.alike) p6.1 f6.1 f6.2.1 f6.2.2.1, f6.2.1.trans bv3, by rw [X6.warmed.alike.findClass, f6.1]; exact bf3, by rw [f6.2.2.1, bs3]; simp, fun j hj => by rw [f6.2.2.2 j, if_pos (by omega)]; rfl, kp3.put p6 (Nat.le_refl _)⟩, by rw [p6.2.2, bh3, hh0]; simp⟩, fun fs hl => c8.trans (X8.areturnOut hexec rfl hret rfl (hb hbytes d58) hl)⟩
end Cmp3
namespace CodL
def yN : MethodName := ⟨"java/lang/StringUTF16", "coderFromArrayLen", "([BI)B"⟩
abbrev yB : ByteArray := jdk_52_method_15_code
theorem d0 : decode yB 0 = .ok (.iload_n 1, 1) := by decide +kernel
theorem d1 : decode yB 1 = .ok (.aload_n 0, 1) := by decide +kernel
theorem d2 : decode yB 2 = .ok (.arraylength, 1) := by decide +kernel
theorem d3 : decode yB 3 = .ok (.isub, 1) := by decide +kernel
theorem d4 : decode yB 4 = .ok (.bipush 31, 2) := by decide +kernel
theorem d6 : decode yB 6 = .ok (.iushr, 1) := by decide +kernel
theorem d7 : decode yB 7 = .ok (.i2b, 1) := by decide +kernel
theorem d8 : decode yB 8 = .ok (.ireturn, 1) := by decide +kernel
def site : List Cond := []
def tab : Cond := tabOf yN yB 2 (some .byte) site
def P (d : Addr) (B : Cell) (args : Array Value) (s : State) : Prop := args = #[.ref d, .int (Int32.ofNat B.slots.size)] ∧ Arr .byte d B s
def E (r : Option Value) (s u : State) : Prop := XT.PureE (some (.int 0)) r s u
/-- an array as long as the number of chars: LATIN1 -/
theorem law (l : Launch) (d : Addr) (B : Cell) : Law l yN 2 2 0 0 yB 2 (some .byte) site (P d B) E [] 0 0 := by
  refine Law.of_walk (plainFor_of_name (by decide +kernel)) (by decide +kernel) (by decide +kernel) (by decide) (fun _ _ h => by rw [h.1]; rfl) (fun _ U U' hal hh h => ⟨h.1, h.2.mv hal hh⟩) (fun r U U' V V' h1 hal h2 h => XT.PureE.mv r U U' V V' h1 hal h2 h) ?_
  intro p e s m args below meth c s₁ X0 hexec hbytes hml hret hlk hnm hown hh0 W hP
  obtain ⟨rfl, hB⟩ := hP
  have hB0 := hB.mv X0.warmed.alike hh0
  have c1 : Steps p.tables e below (s₁.setTop (entryFrame m #[.ref d, .int (Int32.ofNat B.slots.size)] 2)) (s₁.setTop (mkF m 0 #[.val (.ref d), .val (.int (Int32.ofNat B.slots.size))] [])) := entry rfl
  have c2 : Steps p.tables e below (s₁.setTop (entryFrame m #[.ref d, .int (Int32.ofNat B.slots.size)] 2)) (s₁.setTop (mkF m 2 #[.val (.ref d), .val (.int (Int32.ofNat B.slots.size))] [.ref d, .int (Int32.ofNat B.slots.size)])) := c1.trans (by
    refine XS.iloadN X0.here hexec rfl (hb hbytes d0) rfl ?_
    refine XS.aloadN X0.here hexec rfl (hb hbytes d1) rfl rfl ?_
    exact Steps.refl _)
  have c3 : Steps p.tables e below (s₁.setTop (entryFrame m #[.ref d, .int (Int32.ofNat B.slots.size)] 2)) (s₁.setTop (mkF m 8 #[.val (.ref d), .val (.int (Int32.ofNat B.slots.size))] [.int (lo8 (ushr (Int32.ofNat B.slots.size - Int32.ofNat B.slots.size) 31))])) := c2.trans (by
    refine X0.alen hexec hB0 rfl rfl (hb hbytes d2) ?_
    refine XS.isub X0.here hexec rfl (hb hbytes d3) rfl ?_
    refine bipushV X0.here hexec rfl 31 (hb hbytes d4) (by decide) ?_
    refine iushr X0.here hexec rfl (hb hbytes d6) rfl ?_
    refine i2b X0.here hexec rfl (hb hbytes d7) rfl ?_
    exact Steps.refl _)
  have e0 : lo8 (ushr (Int32.ofNat B.slots.size - Int32.ofNat B.slots.size) 31) = 0 := by rw [Int32.sub_self]; decide
  rw [e0] at c3
  exact ⟨s₁, some (.int 0), _, _, _, X0, rfl, rfl, rfl, (fun h => by cases h), ⟨rfl, hh0⟩, fun fs hl => c3.trans (X0.ireturnOut hexec hret rfl (Or.inr (Or.inr (Or.inl rfl))) (hb hbytes d8) hl)⟩
end CodL
/-- the String at a is Latin-1 over a new byte[] (the heap's one new cell): the low bytes of the len chars of A from o on; every cell but a is kept -/
def Got (a : Addr) (D : Cell) (fV fC : Field) (A : Cell) (o len : Nat) (r : Option Value) (s u : State) : Prop := r = none ∧ ∃ D' V : Cell, Blank "java/lang/String" a D' u ∧ Same D D' [fV.slot, fC.slot] ∧ D'.slots[fV.slot]? = some (.ref s.heap.size) ∧ D'.slots[fC.slot]? = some (.int 0) ∧ Arr .byte s.heap.size V u ∧ V.vm = .none ∧ u.vm.findClass "[B" = some V.cls ∧ V.slots.size = len ∧ (∀ j, j < len → V.slots[j]? = some (.int (lo8 (cv A (o + j))))) ∧ (∀ (y : Addr) (c : Cell), y ≠ a → s.heap[y]? = some c → u.heap[y]? = some c) ∧ u.heap.size = s.heap.size + 1
theorem Got.mv {a : Addr} {D A : Cell} {fV fC : Field} {o len : Nat} : ∀ r (U U' V V' : State), U'.heap = U.heap → V.vm.Alike V'.vm → V'.heap = V.heap → Got a D fV fC A o len r U V → Got a D fV fC A o len r U' V' :=
  fun r U U' V V' h1 hal h2 ⟨e0, D', X, a1, a2, a3, a4, a5, a6, a7, a8, a9, a10, a11⟩ => ⟨e0, D', X, a1.mv hal h2, a2, by rw [h1]; exact a3, a4, by rw [h1]; exact a5.mv hal h2, a6, by rw [hal.findClass]; exact a7, a8, a9, by rw [h1, h2]; exact a10, by rw [h1, h2]; exact a11⟩
namespace New4
def yN : MethodName := ⟨"java/lang/String", "<init>", "([CIILjava/lang/Void;)V"⟩
abbrev yB : ByteArray := jdk_42_method_149_code
theorem d0 : decode yB 0 = .ok (.aload_n 0, 1) := by decide +kernel
theorem d1 : decode yB 1 = .ok (.invokespecial 1, 3) := by decide +kernel
theorem d4 : decode yB 4 = .ok (.iload_n 3, 1) := by decide +kernel
theorem d5 : decode yB 5 = .ok (.ifCond (.ne) 22, 3) := by decide +kernel
theorem d27 : decode yB 27 = .ok (.getstatic 38, 3) := by decide +kernel
theorem d30 : decode yB 30 = .ok (.ifCond (.eq) 28, 3) := by decide +kernel
theorem d33 : decode yB 33 = .ok (.aload_n 1, 1) := by decide +kernel
theorem d34 : decode yB 34 = .ok (.iload_n 2, 1) := by decide +kernel
theorem d35 : decode yB 35 = .ok (.iload_n 3, 1) := by decide +kernel
theorem d36 : decode yB 36 = .ok (.invokestatic 177, 3) := by decide +kernel
theorem d39 : decode yB 39 = .ok (.astore 5, 2) := by decide +kernel
theorem d41 : decode yB 41 = .ok (.aload_n 0, 1) := by decide +kernel
theorem d42 : decode yB 42 = .ok (.aload 5, 2) := by decide +kernel
theorem d44 : decode yB 44 = .ok (.iload_n 3, 1) := by decide +kernel
theorem d45 : decode yB 45 = .ok (.invokestatic 47, 3) := by decide +kernel
theorem d48 : decode yB 48 = .ok (.putfield 15, 3) := by decide +kernel
theorem d51 : decode yB 51 = .ok (.aload_n 0, 1) := by decide +kernel
theorem d52 : decode yB 52 = .ok (.aload 5, 2) := by decide +kernel
theorem d54 : decode yB 54 = .ok (.putfield 9, 3) := by decide +kernel
theorem d57 : decode yB 57 = .ok (.return_, 1) := by decide +kernel
def site : List Cond := [.fieldLink "java/lang/String" 38 "java/lang/String" "COMPACT_STRINGS" "Z", Cmp3.tab, CodL.tab, .laysFinal "java/lang/String" "java/lang/String" "value" "[B", .fieldLink "java/lang/String" 9 "java/lang/String" "value" "[B", .laysFinal "java/lang/String" "java/lang/String" "coder" "B", .fieldLink "java/lang/String" 15 "java/lang/String" "coder" "B"] ++ objW "java/lang/String" 1 ++ staticW "java/lang/String" 177 Cmp3.yN ++ staticW "java/lang/String" 47 CodL.yN
def tab : Cond := tabOf yN yB 6 none site
def P (a : Addr) (D : Cell) (fV fC : Field) (b : Addr) (A : Cell) (z : Int32) (o len : Nat) (args : Array Value) (s : State) : Prop := args = #[.ref a, .ref b, .int (Int32.ofNat o), .int (Int32.ofNat len), .null] ∧ Blank "java/lang/String" a D s ∧ Found "java/lang/String" "value" "[B" fV s ∧ Found "java/lang/String" "coder" "B" fC s ∧ Ch b A s ∧ StaticIs s "java/lang/String" "COMPACT_STRINGS" "Z" (.int z) ∧ ¬ z = 0 ∧ 0 < len ∧ o + len ≤ A.slots.size ∧ len ≤ 536870912 ∧ ∀ i, i < len → ¬ 255 < cv A (o + i)
def E (a : Addr) (D : Cell) (fV fC : Field) (A : Cell) (o len : Nat) (r : Option Value) (s u : State) : Prop := Got a D fV fC A o len r s u
/-- len > 0, no char of the range above 255: a Latin-1 String of their low bytes -/
theorem law (l : Launch) (a : Addr) (D : Cell) (fV fC : Field) (b : Addr) (A : Cell) (z : Int32) (o len : Nat) : Law l yN 5 4 2 35 yB 6 none site (P a D fV fC b A z o len) (E a D fV fC A o len) [⟨a, fC.slot⟩, ⟨a, fV.slot⟩] 1 len := by
  refine Law.of_walk (plainFor_of_name (by decide +kernel)) (by decide +kernel) (by decide +kernel) (by decide) (fun _ _ h => by rw [h.1]; rfl) (fun _ U U' hal hh h => ⟨h.1, h.2.1.mv hal hh, h.2.2.1.al hal, h.2.2.2.1.al hal, h.2.2.2.2.1.mv hal hh, h.2.2.2.2.2.1.there hal hh, h.2.2.2.2.2.2⟩) (fun r U U' V V' h1 hal h2 h => Got.mv r U U' V V' h1 hal h2 h) ?_
  intro p e s m args below meth c s₁ X0 hexec hbytes hml hret hlk hnm hown hh0 W hP
  obtain ⟨rfl, hB, f1, f2, hA, s1, hz, l0, l1, l2, hp⟩ := hP
  have a31 := hA.1.2.2.2
  have c1 : Steps p.tables e below (s₁.setTop (entryFrame m #[.ref a, .ref b, .int (Int32.ofNat o), .int (Int32.ofNat len), .null] 6)) (s₁.setTop (mkF m 0 #[.val (.ref a), .val (.ref b), .val (.int (Int32.ofNat o)), .val (.int (Int32.ofNat len)), .val .null, .unset] [])) := entry rfl
  have c2 : Steps p.tables e below (s₁.setTop (entryFrame m #[.ref a, .ref b, .int (Int32.ofNat o), .int (Int32.ofNat len), .null] 6)) (s₁.setTop (mkF m 1 #[.val (.ref a), .val (.ref b), .val (.int (Int32.ofNat o)), .val (.int (Int32.ofNat len)), .val .null, .unset] [.ref a])) := c1.trans (by
    refine XS.aloadN X0.here hexec rfl (hb hbytes d0) rfl rfl ?_
    exact Steps.refl _)
  obtain ⟨T3, X3, q3, st3⟩ := X0.oinit hexec hown (wks W (objW "java/lang/String" 1)) (g := (mkF m 1 #[.val (.ref a), .val (.ref b), .val (.int (Int32.ofNat o)), .val (.int (Int32.ofNat len)), .val .null, .unset] [.ref a])) rfl (by rw [hml]; rfl) (rest := []) rfl (hb hbytes d1) (W := 0) (by show 2 * 0 + 0 ≤ _; decide) (Nat.le_of_ble_eq_true rfl) (Nat.le_of_ble_eq_true rfl)
  have hh3 := q3.trans hh0
  have c4 : Steps p.tables e below (s₁.setTop (entryFrame m #[.ref a, .ref b, .int (Int32.ofNat o), .int (Int32.ofNat len), .null] 6)) (T3.setTop (mkF m 27 #[.val (.ref a), .val (.ref b), .val (.int (Int32.ofNat o)), .val (.int (Int32.ofNat len)), .val .null, .unset] [])) := (c2.trans (st3 _ (Steps.refl _))).trans (by
    refine XS.iloadN X3.here hexec rfl (hb hbytes d4) rfl ?_
    refine XS.ifYes X3.here hexec rfl (pc0 := 5) rfl (hb hbytes d5) rfl (i0_ne_t (nz32 (by omega) l0)) (by decide) rfl ?_
    exact Steps.refl _)
  obtain ⟨T5, X5, q5, st5⟩ := X3.sget hexec hown (wk W (.fieldLink "java/lang/String" 38 "java/lang/String" "COMPACT_STRINGS" "Z")) s1 (fun _ _ h => by rw [hh3]; exact h) (g := (mkF m 27 #[.val (.ref a), .val (.ref b), .val (.int (Int32.ofNat o)), .val (.int (Int32.ofNat len)), .val .null, .unset] [])) rfl (hb hbytes d27)
  have hh5 := q5.trans hh3
  have c6 : Steps p.tables e below (s₁.setTop (entryFrame m #[.ref a, .ref b, .int (Int32.ofNat o), .int (Int32.ofNat len), .null] 6)) (T5.setTop (mkF m 30 #[.val (.ref a), .val (.ref b), .val (.int (Int32.ofNat o)), .val (.int (Int32.ofNat len)), .val .null, .unset] [.int z])) := c4.trans (st5 _ (Steps.refl _))
  have c7 : Steps p.tables e below (s₁.setTop (entryFrame m #[.ref a, .ref b, .int (Int32.ofNat o), .int (Int32.ofNat len), .null] 6)) (T5.setTop (mkF m 36 #[.val (.ref a), .val (.ref b), .val (.int (Int32.ofNat o)), .val (.int (Int32.ofNat len)), .val .null, .unset] [.int (Int32.ofNat len), .int (Int32.ofNat o), .ref b])) := c6.trans (by
    refine XS.ifNo X5.here hexec rfl (hb hbytes d30) rfl (i0_eq_f hz) ?_
    refine XS.aloadN X5.here hexec rfl (hb hbytes d33) rfl rfl ?_
    refine XS.iloadN X5.here hexec rfl (hb hbytes d34) rfl ?_
    refine XS.iloadN X5.here hexec rfl (hb hbytes d35) rfl ?_
    exact Steps.refl _)
  obtain ⟨v8, T8, X8, E8, g8⟩ := X5.callS hexec (Cmp3.law l b A o len) hown (wks W (staticW "java/lang/String" 177 Cmp3.yN)) (wk W Cmp3.tab) (W := 0) (Nat.le_of_ble_eq_true rfl) (Nat.le_of_ble_eq_true rfl) (Nat.le_refl _) (by show 0 + len ≤ len; omega) (g := (mkF m 36 #[.val (.ref a), .val (.ref b), .val (.int (Int32.ofNat o)), .val (.int (Int32.ofNat len)), .val .null, .unset] [.int (Int32.ofNat len), .int (Int32.ofNat o), .ref b])) rfl (by rw [hml]; rfl) c7 (argsL := [.ref b, .int (Int32.ofNat o), .int (Int32.ofNat len)]) (rest := []) rfl rfl (by show 2 * 0 + 0 ≤ _; decide) (hb hbytes d36) (⟨rfl, hA.mv X5.warmed.alike hh5, l1, l2, hp⟩)
  obtain ⟨e8, z8⟩ := E8
  obtain ⟨rfl, N, n1, n2, n3, n4, n5, n6⟩ := NewArr.mv _ T5 s _ _ hh5.symm (Vm.Alike.refl _) rfl e8
  rw [hh5] at z8
  have hB1 := hB.keep X8.warmed.alike (n6 _ _ hB.1)
  have hne : s.heap.size ≠ a := (Nat.ne_of_lt (Array.getElem?_eq_some_iff.mp hB.1).1).symm
  have c9 : Steps p.tables e below (s₁.setTop (entryFrame m #[.ref a, .ref b, .int (Int32.ofNat o), .int (Int32.ofNat len), .null] 6)) (T8.setTop (mkF m 39 #[.val (.ref a), .val (.ref b), .val (.int (Int32.ofNat o)), .val (.int (Int32.ofNat len)), .val .null, .unset] [.ref s.heap.size])) := g8
  have c10 : Steps p.tables e below (s₁.setTop (entryFrame m #[.ref a, .ref b, .int (Int32.ofNat o), .int (Int32.ofNat len), .null] 6)) (T8.setTop (mkF m 45 #[.val (.ref a), .val (.ref b), .val (.int (Int32.ofNat o)), .val (.int (Int32.ofNat len)), .val .null, .val (.ref s.heap.size)] [.int (Int32.ofNat N.slots.size), .ref s.heap.size, .ref a])) := by
    have hc : Steps p.tables e below (s₁.setTop (entryFrame m #[.ref a, .ref b, .int (Int32.ofNat o), .int (Int32.ofNat len), .null] 6)) (T8.setTop (mkF m 45 #[.val (.ref a), .val (.ref b), .val (.int (Int32.ofNat o)), .val (.int (Int32.ofNat len)), .val .null, .val (.ref s.heap.size)] [.int (Int32.ofNat len), .ref s.heap.size, .ref a])) := c9.trans (by
      refine XS.astore X8.here hexec rfl (hb hbytes d39) rfl rfl rfl ?_
      refine XS.aloadN X8.here hexec rfl (hb hbytes d41) rfl rfl ?_
      refine XS.aload X8.here hexec rfl (hb hbytes d42) rfl rfl ?_
      refine XS.iloadN X8.here hexec rfl (hb hbytes d44) rfl ?_
      exact Steps.refl _)
    rw [n4]; exact hc
  obtain ⟨v11, T11, X11, E11, g11⟩ := X8.callS hexec (CodL.law l s.heap.size N) hown (wks W (staticW "java/lang/String" 47 CodL.yN)) (wk W CodL.tab) (W := 1) (Nat.le_of_ble_eq_true rfl) (Nat.le_of_ble_eq_true rfl) (Nat.le_refl _) (by show 0 + len + 0 ≤ len; omega) (g := (mkF m 45 #[.val (.ref a), .val (.ref b), .val (.int (Int32.ofNat o)), .val (.int (Int32.ofNat len)), .val .null, .val (.ref s.heap.size)] [.int (Int32.ofNat N.slots.size), .ref s.heap.size, .ref a])) rfl (by rw [hml]; rfl) c10 (argsL := [.ref s.heap.size, .int (Int32.ofNat N.slots.size)]) (rest := [.ref a]) rfl rfl (by show 2 * 0 + (1 + 0) ≤ _; decide) (hb hbytes d45) (⟨rfl, n1⟩)
  obtain ⟨rfl, q11⟩ := E11
  have hB11 := hB1.mv (X8.warmed.alike.symm.trans X11.warmed.alike) q11
  have c12 : Steps p.tables e below (s₁.setTop (entryFrame m #[.ref a, .ref b, .int (Int32.ofNat o), .int (Int32.ofNat len), .null] 6)) (T11.setTop (mkF m 48 #[.val (.ref a), .val (.ref b), .val (.int (Int32.ofNat o)), .val (.int (Int32.ofNat len)), .val .null, .val (.ref s.heap.size)] [.int 0, .ref a])) := g11
  obtain ⟨T13, X13, p13, bl13, sl13, st13⟩ := X11.finit hexec hown (wk W (.fieldLink "java/lang/String" 15 "java/lang/String" "coder" "B")) (Or.inr ⟨_, (wk W (.laysFinal "java/lang/String" "java/lang/String" "coder" "B"))⟩) (Or.inl ⟨rfl, hnm⟩) f2 (Or.inl rfl) hB11 (t := .byte) (by decide +kernel) rfl (g := (mkF m 48 #[.val (.ref a), .val (.ref b), .val (.int (Int32.ofNat o)), .val (.int (Int32.ofNat len)), .val .null, .val (.ref s.heap.size)] [.int 0, .ref a])) rfl (rest := []) rfl (hb hbytes d48)
  have c14 : Steps p.tables e below (s₁.setTop (entryFrame m #[.ref a, .ref b, .int (Int32.ofNat o), .int (Int32.ofNat len), .null] 6)) (T13.setTop (mkF m 54 #[.val (.ref a), .val (.ref b), .val (.int (Int32.ofNat o)), .val (.int (Int32.ofNat len)), .val .null, .val (.ref s.heap.size)] [.ref s.heap.size, .ref a])) := (c12.trans (st13 _ (Steps.refl _))).trans (by
    refine XS.aloadN X13.here hexec rfl (hb hbytes d51) rfl rfl ?_
    refine XS.aload X13.here hexec rfl (hb hbytes d52) rfl rfl ?_
    exact Steps.refl _)
  obtain ⟨T15, X15, p15, bl15, sl15, st15⟩ := X13.finit hexec hown (wk W (.fieldLink "java/lang/String" 9 "java/lang/String" "value" "[B")) (Or.inr ⟨_, (wk W (.laysFinal "java/lang/String" "java/lang/String" "value" "[B"))⟩) (Or.inl ⟨rfl, hnm⟩) f1 (Or.inl rfl) bl13 (t := (.array .byte)) (by decide +kernel) rfl (g := (mkF m 54 #[.val (.ref a), .val (.ref b), .val (.int (Int32.ofNat o)), .val (.int (Int32.ofNat len)), .val .null, .val (.ref s.heap.size)] [.ref s.heap.size, .ref a])) rfl (rest := []) rfl (hb hbytes d54)
  have c16 : Steps p.tables e below (s₁.setTop (entryFrame m #[.ref a, .ref b, .int (Int32.ofNat o), .int (Int32.ofNat len), .null] 6)) (T15.setTop (mkF m 57 #[.val (.ref a), .val (.ref b), .val (.int (Int32.ofNat o)), .val (.int (Int32.ofNat len)), .val .null, .val (.ref s.heap.size)] [])) := c14.trans (st15 _ (Steps.refl _))
  have ap := apart (Or.inr ⟨_, (wk W (.laysFinal "java/lang/String" "java/lang/String" "value" "[B"))⟩) (Or.inr ⟨_, (wk W (.laysFinal "java/lang/String" "java/lang/String" "coder" "B"))⟩) f1 f2 (t₁ := .array .byte) (t₂ := .byte) (by decide +kernel) (by decide +kernel) (by decide)
  have al := X8.warmed.alike.symm.trans X15.warmed.alike
  have n7 : T11.heap[s.heap.size]? = some N := by rw [q11]; exact n1.1
  exact ⟨T15, none, _, _, _, X15, by simp, rfl, by omega, (fun _ => rfl), ⟨rfl, _, N, bl15, ((Same.refl D _).set _ (by simp)).set _ (by simp), sl15, (Cell.slots_setSlot_ne _ ap).trans sl13, n1.keep al (p15.other hne (p13.other hne n7)), n2, by rw [al.findClass]; exact n3, n4, n5, fun y c h1 h2 => p15.other h1 (p13.other h1 (by rw [q11]; exact n6 y c h2)), by rw [p15.2.2, p13.2.2, q11]; exact z8⟩, fun fs hl => c16.trans (X15.returnOut hexec hret (hb hbytes d57) hl)⟩
end New4
namespace New1
def yN : MethodName := ⟨"java/lang/String", "<init>", "([C)V"⟩
abbrev yB : ByteArray := jdk_42_method_3_code
theorem d0 : decode yB 0 = .ok (.aload_n 0, 1) := by decide +kernel
theorem d1 : decode yB 1 = .ok (.aload_n 1, 1) := by decide +kernel
theorem d2 : decode yB 2 = .ok (.iconst 0, 1) := by decide +kernel
theorem d3 : decode yB 3 = .ok (.aload_n 1, 1) := by decide +kernel
theorem d4 : decode yB 4 = .ok (.arraylength, 1) := by decide +kernel
theorem d5 : decode yB 5 = .ok (.aconst_null, 1) := by decide +kernel
theorem d6 : decode yB 6 = .ok (.invokespecial 27, 3) := by decide +kernel
theorem d9 : decode yB 9 = .ok (.return_, 1) := by decide +kernel
def site : List Cond := [New4.tab] ++ initW "java/lang/String" 27 New4.yN
def tab : Cond := tabOf yN yB 2 none site
def P (a : Addr) (D : Cell) (fV fC : Field) (b : Addr) (A : Cell) (z : Int32) (args : Array Value) (s : State) : Prop := args = #[.ref a, .ref b] ∧ Blank "java/lang/String" a D s ∧ Found "java/lang/String" "value" "[B" fV s ∧ Found "java/lang/String" "coder" "B" fC s ∧ Ch b A s ∧ StaticIs s "java/lang/String" "COMPACT_STRINGS" "Z" (.int z) ∧ ¬ z = 0 ∧ 0 < A.slots.size ∧ A.slots.size ≤ 536870912 ∧ ∀ i, i < A.slots.size → ¬ 255 < cv A i
def E (a : Addr) (D : Cell) (fV fC : Field) (A : Cell) (r : Option Value) (s u : State) : Prop := Got a D fV fC A 0 A.slots.size r s u
/-- new String(chars), not empty, no char above 255: a Latin-1 String of their low bytes -/
theorem law (l : Launch) (a : Addr) (D : Cell) (fV fC : Field) (b : Addr) (A : Cell) (z : Int32) : Law l yN 2 1 3 52 yB 2 none site (P a D fV fC b A z) (E a D fV fC A) [⟨a, fC.slot⟩, ⟨a, fV.slot⟩] 1 A.slots.size := by
  refine Law.of_walk (plainFor_of_name (by decide +kernel)) (by decide +kernel) (by decide +kernel) (by decide) (fun _ _ h => by rw [h.1]; rfl) (fun _ U U' hal hh h => ⟨h.1, h.2.1.mv hal hh, h.2.2.1.al hal, h.2.2.2.1.al hal, h.2.2.2.2.1.mv hal hh, h.2.2.2.2.2.1.there hal hh, h.2.2.2.2.2.2⟩) (fun r U U' V V' h1 hal h2 h => Got.mv r U U' V V' h1 hal h2 h) ?_
  intro p e s m args below meth c s₁ X0 hexec hbytes hml hret hlk hnm hown hh0 W hP
  obtain ⟨rfl, hB, f1, f2, hA, s1, hz, l0, l2, hp⟩ := hP
  have c1 : Steps p.tables e below (s₁.setTop (entryFrame m #[.ref a, .ref b] 2)) (s₁.setTop (mkF m 0 #[.val (.ref a), .val (.ref b)] [])) := entry rfl
  have c2 : Steps p.tables e below (s₁.setTop (entryFrame m #[.ref a, .ref b] 2)) (s₁.setTop (mkF m 6 #[.val (.ref a), .val (.ref b)] [.null, .int (Int32.ofNat A.slots.size), .int 0, .ref b, .ref a])) := c1.trans (by
    refine XS.aloadN X0.here hexec rfl (hb hbytes d0) rfl rfl ?_
    refine XS.aloadN X0.here hexec rfl (hb hbytes d1) rfl rfl ?_
    refine iconstV X0.here hexec rfl 0 (hb hbytes d2) (by decide) ?_
    refine XS.aloadN X0.here hexec rfl (hb hbytes d3) rfl rfl ?_
    refine X0.alen hexec (hA.1.mv X0.warmed.alike hh0) rfl rfl (hb hbytes d4) ?_
    refine XS.aconstNull X0.here hexec rfl (hb hbytes d5) ?_
    exact Steps.refl _)
  obtain ⟨v3, T3, X3, E3, g3⟩ := X0.callN hexec (New4.law l a D fV fC b A z 0 A.slots.size) rfl hown (wks W (initW "java/lang/String" 27 New4.yN)) (W New4.tab (by simp only [site, List.mem_cons, List.mem_append, true_or, or_true])) (W := 0) (Nat.le_of_ble_eq_true rfl) (Nat.le_of_ble_eq_true rfl) (Nat.le_refl _) (by show 0 + A.slots.size ≤ A.slots.size; omega) (g := (mkF m 6 #[.val (.ref a), .val (.ref b)] [.null, .int (Int32.ofNat A.slots.size), .int (Int32.ofNat 0), .ref b, .ref a])) rfl (by rw [hml]; rfl) c2 (argsL := [.ref b, .int (Int32.ofNat 0), .int (Int32.ofNat A.slots.size), .null]) (rest := []) rfl rfl (by show 2 * 0 + 0 ≤ _; decide) (hb hbytes d6) (⟨rfl, hB.mv X0.warmed.alike hh0, f1.al X0.warmed.alike, f2.al X0.warmed.alike, hA.mv X0.warmed.alike hh0, s1.there X0.warmed.alike hh0, hz, l0, by omega, l2, fun i hi => by rw [Nat.zero_add]; exact hp i hi⟩)
  have e0 := Got.mv _ s₁ s _ _ hh0.symm (Vm.Alike.refl _) rfl E3
  obtain rfl := e0.1
  have c4 : Steps p.tables e below (s₁.setTop (entryFrame m #[.ref a, .ref b] 2)) (T3.setTop (mkF m 9 #[.val (.ref a), .val (.ref b)] [])) := g3
  exact ⟨T3, none, _, _, _, X3, by simp, rfl, by omega, (fun _ => rfl), e0, fun fs hl => c4.trans (X3.returnOut hexec hret (hb hbytes d9) hl)⟩
theorem pays {l : Launch} {R : Room} {p : Program} {e : Env} {below : List Frame} {s : State} {sargs : Array Value} {len W : Nat} (a : Addr) (D : Cell) (fV fC : Field) (b : Addr) (A : Cell) (z : Int32) (htab : tab.before sargs s = true) (hfr : 4 ≤ R.frames) (hlo : W + 65 ≤ R.locals) :
    Back l R p e below s sargs yN len W (fun A₁ a₁ => A₁.cells + 1 ≤ R.cells ∧ A₁.slots + A.slots.size ≤ R.slots ∧ P a D fV fC b A z a₁ A₁.U) (fun A₁ _ v₁ B₁ => E a D fV fC A v₁ A₁.U B₁.U ∧ B₁.locs = A₁.locs ++ [⟨a, fC.slot⟩, ⟨a, fV.slot⟩] ∧ B₁.cells = A₁.cells + 1 ∧ B₁.slots = A₁.slots + A.slots.size) :=
  (law l a D fV fC b A z).pays htab hfr (by omega)
end New1
end StrChars
namespace StrChars.Road
open Jvm Sem ClassFile Op Lib Jvm.Stand Jvm.Free Jvm.Free.XT
open Jvm.Lib.Cold (StaticIs)
abbrev ST : String := "java/lang/String"
/-- every table word that New1's law asks, flat -/
abbrev words : List Jvm.Cond := [.code New1.yN New1.yB 2 none, .initialized ST, .methodLink ST 27 New4.yN, .instanceMethod New4.yN,
  .code New4.yN New4.yB 6 none, .fieldLink ST 38 ST "COMPACT_STRINGS" "Z", .laysFinal ST ST "value" "[B", .fieldLink ST 9 ST "value" "[B", .laysFinal ST ST "coder" "B", .fieldLink ST 15 ST "coder" "B",
  .methodLink ST 1 Lib.objectInit, .instanceMethod Lib.objectInit, .code Lib.objectInit ⟨#[0xb1]⟩ 1 none, .methodLink ST 177 Cmp3.yN, .static Cmp3.yN, .methodLink ST 47 CodL.yN, .static CodL.yN,
  .code Cmp3.yN Cmp3.yB 6 (some (.array .byte)), .initialized U16, .arrayClass .byte, .methodLink U16 115 Cmp5.yN, .static Cmp5.yN, .code Cmp5.yN Cmp5.yB 7 (some .int), .code CodL.yN CodL.yB 2 (some .byte)]
theorem tab_of {a : Array Value} {s : State} (h : ∀ w ∈ words, w.before a s = true) : New1.tab.before a s = true := by
  have h5 : Cmp5.tab.before a s = true := unparts (wk h (.code Cmp5.yN Cmp5.yB 7 (some .int))) (wks h (.initialized Cmp5.yN.cls :: Cmp5.site))
  have hc : CodL.tab.before a s = true := unparts (wk h (.code CodL.yN CodL.yB 2 (some .byte))) (wks h (.initialized CodL.yN.cls :: CodL.site))
  have q5 : ∀ w ∈ Cmp5.tab :: words, w.before a s = true := fun w hw => (List.mem_cons.mp hw).elim (fun e => e ▸ h5) (h w)
  have h3 : Cmp3.tab.before a s = true := unparts (wk q5 (.code Cmp3.yN Cmp3.yB 6 (some (.array .byte)))) (wks q5 (.initialized Cmp3.yN.cls :: Cmp3.site))
  have q3 : ∀ w ∈ Cmp3.tab :: CodL.tab :: words, w.before a s = true := fun w hw => (List.mem_cons.mp hw).elim (fun e => e ▸ h3) fun hw => (List.mem_cons.mp hw).elim (fun e => e ▸ hc) (h w)
  have h4 : New4.tab.before a s = true := unparts (wk q3 (.code New4.yN New4.yB 6 none)) (wks q3 (.initialized New4.yN.cls :: New4.site))
  have q4 : ∀ w ∈ New4.tab :: words, w.before a s = true := fun w hw => (List.mem_cons.mp hw).elim (fun e => e ▸ h4) (h w)
  exact unparts (wk q4 (.code New1.yN New1.yB 2 none)) (wks q4 (.initialized New1.yN.cls :: New1.site))
/-- the words ride from the start Z to the walk's own state -/
theorem moved {Z s : State} {a0 args : Array Value} (hZ : Z.Warmed39 s.vm) (hw : ∀ d ∈ words, d.before a0 Z = true) : ∀ d ∈ words, d.before args s = true := fun d hd => by
  have q := hw d hd
  have t : ∀ d ∈ words, d = .arrayClass .byte ∨ (d.onTables && d.keepsFace) = true := by decide +kernel
  rcases t d hd with rfl | t
  · exact RoadKit.mvA hZ q
  · exact RoadKit.mv hZ q t
/-- WHAT COMES BACK, over the tables of the start Z: h the heap at the call, h' behind it -/
def Q (Z : State) (x : Addr) (A : Cell) (h : Heap) (v : Option Value) (h' : Heap) (L : List Loc) : Prop := v = none ∧ (∀ y ∈ L, y.base = x) ∧ RoadKit.Keep h h' [x] ∧ h'.size = h.size + 1 ∧ RoadKit.Exa Z h' x ST ∧ RoadKit.Fld Z h' x ST "value" "[B" (.ref h.size) ∧ RoadKit.Fld Z h' x ST "coder" "B" (.int 0) ∧
  (∃ V : Cell, RoadKit.Arr Z h' h.size V .byte ∧ V.vm = .none ∧ Z.vm.findClass "[B" = some V.cls ∧ V.slots.size = A.slots.size ∧ ∀ j, j < A.slots.size → V.slots[j]? = some (.int (lo8 (cv A j)))) ∧
  ∀ (O n d : String) (w : Value), RoadKit.Fld Z h x O n d w → RoadKit.slotOf Z O n d ≠ RoadKit.slotOf Z ST "value" "[B" → RoadKit.slotOf Z O n d ≠ RoadKit.slotOf Z ST "coder" "B" → RoadKit.Fld Z h' x O n d w
/-- **new String(chars) AT A CALL, IN THE ROAD'S FORM**: for specialBack behind newO: x the fresh String, b the char[] with the cell A -/
theorem back {p : Program} {l : Launch} {e : Env} {R : Room} {s : State} {args : Array Value} {below : List Frame} {len W : Nat} {Z : State} {a0 : Array Value} {h : Heap} (hZ : Z.Warmed39 s.vm) (hw : ∀ d ∈ words, d.before a0 Z = true) {kI : Nat} (wi : (Jvm.Cond.instantiable ST kI).before a0 Z = true)
    {x b : Addr} {A : Cell} {z : Int32} {v0 c0 : Value} (E : RoadKit.Exa Z h x ST) (V : RoadKit.Fld Z h x ST "value" "[B" v0) (C : RoadKit.Fld Z h x ST "coder" "B" c0) (K : RoadKit.Arr Z h b A .char) (hty : Typed .char A) (S : RoadKit.Sta Z h ST "COMPACT_STRINGS" "Z" (.int z)) (hz : ¬ z = 0)
    (l0 : 0 < A.slots.size) (l2 : A.slots.size ≤ 536870912) (hp : ∀ i, i < A.slots.size → ¬ 255 < cv A i) (hfr : 4 ≤ R.frames) (hlo : W + 65 ≤ R.locals) :
    Back l R p e below s args New1.yN len W (fun P a => a = #[.ref x, .ref b] ∧ P.U.heap = h ∧ P.cells + 1 ≤ R.cells ∧ P.slots + A.slots.size ≤ R.slots)
      (fun P _ v B => ∃ L, Q Z x A h v B.U.heap L ∧ B.locs = P.locs ++ L ∧ B.cells = P.cells + 1 ∧ B.slots = P.slots + A.slots.size) := by
  intro m meth c P g ig mk a X hg hsize hdg hW hn hp'
  obtain ⟨rfl, rfl, r1, r2⟩ := hp'
  have al : Z.vm.Alike P.U.vm := hZ.alike.trans X.warmed.alike
  obtain ⟨D, cfV, kV, iV, fV, hD, gV, stV, knV, obV, asV, slV⟩ := id V
  obtain ⟨D', cfC, kC, iC, fC, hD', gC, stC, -, -, asC, slC⟩ := id C
  cases hD.symm.trans hD'
  obtain ⟨D2, kD, e1, e2, e3, e4, e5⟩ := id E
  cases hD.symm.trans e1
  obtain ⟨c2, k2, i1, i2, i3, -⟩ := Cond.instantiable_spec wi
  cases e2.symm.trans i1
  cases e3.symm.trans i2
  obtain ⟨kU, u1, u2⟩ := al.2.2 _ _ e3
  have hB : Blank ST x D P.U := ⟨hD, ⟨knV, fun q hq => by rw [hq] at obV; cases obV⟩, by rw [al.findClass]; exact e2, kU, u1, by rw [u2]; exact i3, by rw [u2]; exact e5 i3⟩
  have F1 : Found ST "value" "[B" fV P.U := ⟨SBG.found_only al ⟨cfV, kV, iV, gV⟩, stV⟩
  have F2 : Found ST "coder" "B" fC P.U := ⟨SBG.found_only al ⟨cfC, kC, iC, gC⟩, stC⟩
  have hA : Ch b A P.U := ⟨⟨K.1, State.isArrayOf_alike al K.2.1, K.2.2, by omega⟩, hty⟩
  have hS : StaticIs P.U ST "COMPACT_STRINGS" "Z" (.int z) := by
    obtain ⟨cfS, iS, kS, fS, st, cS, t1, t2, t3, t4, t5, t6, t7⟩ := S
    exact StaticIs.there (s := { Z with heap := P.U.heap }) ⟨cfS, iS, kS, fS, st, cS, t1, t2, t3, t4, t5, (fun q => by rw [q] at t6; cases t6), t7⟩ al rfl
  obtain ⟨v, B, X', ⟨⟨hv, E', V', q1, q2, q3, q4, q5, q6, q7, q8, q9, q10, q11⟩, hl, hc, hs⟩, st⟩ := New1.pays x D fV fC b A z (tab_of (moved hZ hw)) hfr hlo m meth c P g ig mk _ X hg hsize hdg hW hn ⟨r1, r2, rfl, hB, F1, F2, hA, hS, hz, l0, l2, hp⟩
  have al' : Z.vm.Alike B.U.vm := hZ.alike.trans X'.warmed.alike
  have hsz : E'.slots.size = D.slots.size := by
    obtain ⟨-, -, -, kB, w1, w2, w3⟩ := q1
    obtain ⟨kB', y1, y2⟩ := al'.2.2 _ _ e3
    rw [q2.2.1] at w1
    cases w1.symm.trans y1
    rw [w3, e5 i3, y2]
  refine ⟨v, B, X', ⟨_, ⟨hv, ?_, ⟨by omega, fun y cy hy hn' => q10 y cy (by simpa using hn') hy, fun y cy hy => ?_⟩, q11, ⟨E', _, q1.1, by rw [q2.2.1]; exact e2, by rw [q2.2.1]; exact e3, by rw [q2.1]; exact obV, fun _ => by rw [hsz]; exact e5 i3⟩,
    ⟨E', cfV, kV, iV, fV, q1.1, gV, stV, by rw [q2.1]; exact knV, by rw [q2.1]; exact obV, by rw [q2.2.1]; exact asV, q3⟩, ⟨E', cfC, kC, iC, fC, q1.1, gC, stC, by rw [q2.1]; exact knV, by rw [q2.1]; exact obV, by rw [q2.2.1]; exact asC, q4⟩,
    ⟨V', ⟨q5.1, State.isArrayOf_alike al'.symm q5.2.1, q5.2.2.1⟩, q6, by rw [← al'.findClass]; exact q7, q8, fun j hj => by have := q9 j hj; rwa [Nat.zero_add] at this⟩, fun O n d w F n1 n2 => ?_⟩, hl, hc, hs⟩, st⟩
  · intro y hy
    simp only [List.mem_cons, List.not_mem_nil, or_false] at hy
    rcases hy with rfl | rfl <;> rfl
  · by_cases q : y = x
    · subst q
      cases hD.symm.trans hy
      exact ⟨E', q1.1, q2.2.1, q2.1, hsz⟩
    · exact ⟨cy, q10 y cy q hy, rfl, rfl, rfl⟩
  · obtain ⟨D3, cf, k, i, f, g1, g2, g3, g4, g5, g6, g7⟩ := F
    cases hD.symm.trans g1
    simp only [RoadKit.slotOf, g2, gV, gC, Option.map_some, Option.getD_some] at n1 n2
    exact ⟨E', cf, k, i, f, q1.1, g2, g3, by rw [q2.1]; exact g4, by rw [q2.1]; exact g5, by rw [q2.2.1]; exact g6, by rw [q2.2.2 f.slot (by simp [n1, n2])]; exact g7⟩
end StrChars.Road
namespace StrChars.Road
open Jvm Sem ClassFile Op Lib Jvm.Stand Jvm.Free Jvm.Free.XT
/-- WHAT COMES BACK, the byte[] as a list of values -/
def QA (Z : State) (x : Addr) (zn : Int32) (cs : List Int32) (h : Heap) (v : Option Value) (h' : Heap) (L : List Loc) : Prop := v = none ∧ (∀ y ∈ L, y.base = x) ∧ RoadKit.Keep h h' [x] ∧ h'.size = h.size + 1 ∧ RoadKit.Exa Z h' x ST ∧ RoadKit.Fld Z h' x ST "value" "[B" (.ref h.size) ∧ RoadKit.Fld Z h' x ST "coder" "B" (.int 0) ∧
  (∃ kb, Z.vm.findClass "[B" = some kb ∧ RoadKit.Arv Z h' h.size kb .byte zn (cs.map fun c => .int (lo8 c)) (.int 0)) ∧
  ∀ (O n d : String) (w : Value), RoadKit.Fld Z h x O n d w → RoadKit.slotOf Z O n d ≠ RoadKit.slotOf Z ST "value" "[B" → RoadKit.slotOf Z O n d ≠ RoadKit.slotOf Z ST "coder" "B" → RoadKit.Fld Z h' x O n d w
/-- **new String(chars) AT A CALL, THE ARRAYS AS LISTS**: the char[] at b holds cs, not empty, no char above 255 -/
theorem backArv {p : Program} {l : Launch} {e : Env} {R : Room} {s : State} {args : Array Value} {below : List Frame} {len W : Nat} {Z : State} {a0 : Array Value} {h : Heap} (hZ : Z.Warmed39 s.vm) (hw : ∀ d ∈ words, d.before a0 Z = true) {kI : Nat} (wi : (Jvm.Cond.instantiable ST kI).before a0 Z = true)
    {x b : Addr} {k : ClassId} {zn z : Int32} {cs : List Int32} {dv v0 c0 : Value} (E : RoadKit.Exa Z h x ST) (V : RoadKit.Fld Z h x ST "value" "[B" v0) (C : RoadKit.Fld Z h x ST "coder" "B" c0) (K : RoadKit.Arv Z h b k .char zn (cs.map Value.int) dv) (S : RoadKit.Sta Z h ST "COMPACT_STRINGS" "Z" (.int z)) (hz : ¬ z = 0)
    (hlen : zn.toNatClampNeg = cs.length) (h0 : 0 < cs.length) (hbig : cs.length ≤ 536870912) (hall : ∀ c ∈ cs, ¬ 255 < c) (hfr : 4 ≤ R.frames) (hlo : W + 65 ≤ R.locals) :
    Back l R p e below s args New1.yN len W (fun P a => a = #[.ref x, .ref b] ∧ P.U.heap = h ∧ P.cells + 1 ≤ R.cells ∧ P.slots + cs.length ≤ R.slots)
      (fun P _ v B => ∃ L, QA Z x zn cs h v B.U.heap L ∧ B.locs = P.locs ++ L ∧ B.cells = P.cells + 1 ∧ B.slots = P.slots + cs.length) := by
  obtain ⟨A, K1, K2, K3, K4, K5, K6⟩ := K
  have e : A.slots.size = cs.length := K3.trans hlen
  have hat : ∀ (i : Nat) (hi : i < cs.length), A.slots[i]? = some (.int cs[i]) := fun i hi => by rw [K5 i (by omega)]; simp [List.getD_eq_getElem?_getD, hi]
  have hcv : ∀ (i : Nat) (hi : i < cs.length), cv A i = cs[i] := fun i hi => by unfold cv; rw [hat i hi]
  have hty : Typed .char A := fun i v hv => by
    have hi : i < A.slots.size := (Array.getElem?_eq_some_iff.mp hv).1
    have q := K5 i hi
    rw [hv] at q
    rw [Option.some.inj q]
    exact K6 i hi
  refine Back.mono (back hZ hw wi E V C K1 hty S hz (by omega) (by omega) (fun i hi => by rw [hcv i (by omega)]; exact hall _ (List.getElem_mem _)) hfr hlo) (fun P a hp => ⟨hp.1, hp.2.1, hp.2.2.1, by rw [e]; exact hp.2.2.2⟩) (fun P a v B hp hq => ?_)
  obtain ⟨L, ⟨q1, q2, q3, q4, q5, q6, q7, ⟨V', v1, v2, v3, v4, v5⟩, q9⟩, hl, hc, hs⟩ := hq
  refine ⟨L, ⟨q1, q2, q3, q4, q5, q6, q7, ⟨V'.cls, v3, V', v1, rfl, by rw [v4, e, hlen], K4, fun i hi => ?_, fun i hi => ?_⟩, q9⟩, hl, hc, by rw [hs, e]⟩
  · have hi' : i < cs.length := by omega
    rw [v5 i (by omega), hcv i hi']; simp [List.getD_eq_getElem?_getD, hi']
  · have hi' : i < cs.length := by omega
    simp only [List.getD_eq_getElem?_getD, List.getElem?_map, List.getElem?_eq_getElem hi', Option.map_some, Option.getD_some]
    exact fits_lo8 _
end StrChars.Road
namespace StrChars.Road
open Jvm Sem ClassFile Op Lib Jvm.Stand Jvm.Free Jvm.Free.XT
/-- WHAT COMES BACK, in the writer's own shape -/
def QV (Z : State) (x : Addr) (N : Int32) (bs : List Int32) (h : Heap) (n0 : Nat) (v : Option Value) (h' : Heap) (L : List Loc) : Prop := v = none ∧ RoadKit.Fr n0 L ∧ RoadKit.Keep h h' [x] ∧ RoadKit.Exa Z h' x ST ∧ RoadKit.Fld Z h' x ST "coder" "B" (.int 0) ∧
  ∃ (t : Addr) (kb : ClassId), n0 ≤ t ∧ h.size ≤ t ∧ ¬ t = x ∧ RoadKit.Fld Z h' x ST "value" "[B" (.ref t) ∧ RoadKit.Arv Z h' t kb .byte N (bs.map Value.int) (.int 0)
/-- **new String(chars) AT A CALL, FOR THE WRITER**: a char[] of n known ints, each 0 to 255 -/
theorem backV {p : Program} {l : Launch} {e : Env} {R : Room} {s : State} {args : Array Value} {below : List Frame} {len W : Nat} {Z : State} {a0 : Array Value} {h : Heap} (hZ : Z.Warmed39 s.vm) (hw : ∀ d ∈ words, d.before a0 Z = true) {kI : Nat} (wi : (Jvm.Cond.instantiable ST kI).before a0 Z = true)
    {x b : Addr} {kC : ClassId} {cs bs : List Int32} {d v0 c0 : Value} {z N : Int32} {n n0 : Nat} (hx0 : n0 ≤ x) (hh0 : n0 ≤ h.size) (E : RoadKit.Exa Z h x ST) (V : RoadKit.Fld Z h x ST "value" "[B" v0) (C : RoadKit.Fld Z h x ST "coder" "B" c0) (K : RoadKit.Arv Z h b kC .char N (cs.map Value.int) d) (S : RoadKit.Sta Z h ST "COMPACT_STRINGS" "Z" (.int z)) (hz : ¬ z = 0)
    (hn : cs.length = n) (hN : N = Int32.ofNat n) (l0 : 0 < n) (l2 : n ≤ 4000) (hp : ∀ c ∈ cs, ¬ c < 0 ∧ ¬ (255 : Int32) < c) (hb : bs = cs.map (fun c => c.toInt8.toInt32)) (hfr : 4 ≤ R.frames) (hlo : W + 65 ≤ R.locals) :
    Back l R p e below s args (⟨"java/lang/String", "<init>", "([C)V"⟩ : MethodName) len W (fun P a => a = #[.ref x, .ref b] ∧ P.U.heap = h ∧ P.cells + 1 ≤ R.cells ∧ P.slots + n ≤ R.slots)
      (fun P _ v B => ∃ L, QV Z x N bs h n0 v B.U.heap L ∧ B.locs = P.locs ++ L ∧ B.cells = P.cells + 1 ∧ B.slots = P.slots + n) := by
  subst hn hN hb
  refine Back.mono (backArv hZ hw wi E V C K S hz (n32 (by omega)) l0 (by omega) (fun c hc => (hp c hc).2) hfr hlo) (fun P a hp => hp) (fun P a v B hp hq => ?_)
  obtain ⟨L, ⟨q1, q2, q3, q4, q5, q6, q7, ⟨kb, v1, v2⟩, q9⟩, hl, hc, hs⟩ := hq
  exact ⟨L, ⟨q1, fun y hy => by rw [q2 y hy]; exact hx0, q3, q5, q7, h.size, kb, hh0, Nat.le_refl _, Nat.ne_of_gt E.lt, q6, by rw [List.map_map]; exact v2⟩, hl, hc, hs⟩
end StrChars.Road
end Jvm.Pilot.@@N@@
namespace Jvm.RoadKit
open Sem ClassFile Op Lib Jvm.Stand Jvm.Free Jvm.LawKit
section OwnNew
variable {p : Program} {l : Launch} {e : Env} {R : Room} {s : State} {m : MethodId} {args : Array Value} {below : List Frame} {meth : Method} {c : Code} {T : State} {locs : List Loc} {cells slots : Nat} {h : Heap}
/-- from S the run comes to an end of which Q holds -/
def OwnGo (p : Program) (e : Env) (below : List Frame) (S : State) (Q : Outcome → State → Prop) : Prop :=
  ∃ s₂ o, Steps p.tables e below S s₂ ∧ s₂.status = .running ∧ Ended s₂ below o ∧ Q o s₂
theorem own_go {S : State} {Q : Outcome → State → Prop} (k : OwnGo p e below S Q) : ∃ s₂ o, Steps p.tables e below S s₂ ∧ s₂.status = .running ∧ Ended s₂ below o ∧ Q o s₂ := k
theorem own_back {S S' : State} {Q : Outcome → State → Prop} (h : ∀ t, Steps p.tables e below S' t → Steps p.tables e below S t) (k : OwnGo p e below S' Q) : OwnGo p e below S Q := by
  obtain ⟨s2, o, h1, h2⟩ := k
  exact ⟨s2, o, h _ h1, h2⟩
theorem own_seq {S S' : State} {Q : Outcome → State → Prop} (h : Steps p.tables e below S S') (k : OwnGo p e below S' Q) : OwnGo p e below S Q := own_back (fun _ ht => h.trans ht) k
abbrev OwnEnd (s : State) (Qf : Option Value → Heap → List Loc → Prop) (C S : Nat) : Outcome → State → Prop := fun o U' => ∃ v L, o = .returned v ∧ Qf v U'.heap L ∧ FrameEnd s o U' L C S
theorem own_end (X : Stand p l e R s m args below meth c T locs cells slots) (hlocks : meth.locks = false) {v : Option Value} (hv : meth.sig.returnType = none → v = none) {S : State} {Qf : Option Value → Heap → List Loc → Prop} {C Sl : Nat} (eT : T.heap = h) (hc : cells ≤ C) (hs : slots ≤ Sl) (hq : Qf v h locs)
    (step : ∀ fs : List Frame, (∀ (f : JFrame) (acts : List Action), f.method = m → f.locked = none → f.entered = [] → (doReturn e (T.setTop f) acts v).1 = T.setFrames fs) → Steps p.tables e below S (T.setFrames fs)) : OwnGo p e below S (OwnEnd s Qf C Sl) := by
  obtain ⟨fs, hr, hrun, hended, hW, hsame⟩ := X.leave (v := v) hv hlocks
  refine ⟨_, _, step fs hr, hrun, hended, v, locs, rfl, ?_, ⟨_, rfl⟩, hW, hsame.mono hc hs⟩
  show Qf v T.heap locs
  rw [eT]; exact hq
theorem own_hat {T : State} {h : Heap} {a : Addr} {c : Cell} (e : T.heap = h) (q : h[a]? = some c) : T.heap[a]? = some c := by rw [e]; exact q
theorem own_hle {T : State} {h : Heap} {k : Nat} (e : T.heap = h) (q : k ≤ h.size) : k ≤ T.heap.size := by rw [e]; exact q
theorem own_backN {Z : State} {a0 : Array Value} {y : MethodName} {bytes : ByteArray} {maxL : Nat} {ret : Option FieldType} {rm : Room} {len W : Nat} {as' : Array Value} {Q : Option Value → Heap → List Loc → Prop}
    (hM : MetFree l y (head1 [Cond.code y bytes maxL ret] rm) (fun a U => a = as' ∧ Z.Warmed39 U.vm ∧ U.heap = h) (fun _ _ _ _ _ => True) (fun _ U o U' => OwnEnd U Q rm.cells rm.slots o U'))
    (hZ : Z.Warmed39 s.vm) (wc : (Cond.code y bytes maxL ret).before a0 Z = true) (wz : (Cond.initialized y.cls).before a0 Z = true) (hf : rm.frames + 1 ≤ R.frames) (hl : W + (maxL + 11) + rm.locals ≤ R.locals) :
    Back l R p e below s args y len W (fun A a => a = as' ∧ A.U.heap = h ∧ A.cells + rm.cells ≤ R.cells ∧ A.slots + rm.slots ≤ R.slots)
      (fun A _ v B => ∃ L, Q v B.U.heap L ∧ B.locs = A.locs ++ L ∧ B.cells = A.cells + rm.cells ∧ B.slots = A.slots + rm.slots) := backOf (Q := Q) hM hZ wc wz hf hl
theorem own_retN (X : Stand p l e R s m args below meth c T locs cells slots) (hx : p.tables.exec = Jvm.exec) (hlocks : meth.locks = false) {pc : Nat} {Ls : Array Slot} {z : Int32} {t : FieldType} {rest : List Value} (hret : meth.sig.returnType = some t) (ht : t = .boolean ∨ t = .byte ∨ t = .char ∨ t = .short) (hn : nar t z = z)
    (hd : decode c.code pc = .ok (.ireturn, 1)) {Qf : Option Value → Heap → List Loc → Prop} {C Sl : Nat} (eT : T.heap = h) (hc : cells ≤ C) (hs : slots ≤ Sl) (hq : Qf (some (.int z)) h locs) : OwnGo p e below (T.setTop (mkF m pc Ls (.int z :: rest))) (OwnEnd s Qf C Sl) :=
  own_end X hlocks (fun h => by rw [hret] at h; cases h) eT hc hs hq fun fs hr => retN X hx hret ht hd (by rw [hn]; exact hr)
theorem own_retI (X : Stand p l e R s m args below meth c T locs cells slots) (hx : p.tables.exec = Jvm.exec) (hlocks : meth.locks = false) {pc : Nat} {Ls : Array Slot} {z : Int32} {rest : List Value} (hret : meth.sig.returnType = some .int)
    (hd : decode c.code pc = .ok (.ireturn, 1)) {Qf : Option Value → Heap → List Loc → Prop} {C Sl : Nat} (eT : T.heap = h) (hc : cells ≤ C) (hs : slots ≤ Sl) (hq : Qf (some (.int z)) h locs) : OwnGo p e below (T.setTop (mkF m pc Ls (.int z :: rest))) (OwnEnd s Qf C Sl) :=
  own_end X hlocks (fun h => by rw [hret] at h; cases h) eT hc hs hq fun fs hr => retOut X hx hret rfl (Or.inl ⟨rfl, Or.inl rfl, z, rfl⟩) hd hr
theorem own_retJ (X : Stand p l e R s m args below meth c T locs cells slots) (hx : p.tables.exec = Jvm.exec) (hlocks : meth.locks = false) {pc : Nat} {Ls : Array Slot} {z : Int64} {rest : List Value} (hret : meth.sig.returnType = some .long)
    (hd : decode c.code pc = .ok (.lreturn, 1)) {Qf : Option Value → Heap → List Loc → Prop} {C Sl : Nat} (eT : T.heap = h) (hc : cells ≤ C) (hs : slots ≤ Sl) (hq : Qf (some (.long z)) h locs) : OwnGo p e below (T.setTop (mkF m pc Ls (.long z :: rest))) (OwnEnd s Qf C Sl) :=
  own_end X hlocks (fun h => by rw [hret] at h; cases h) eT hc hs hq fun fs hr => retOut X hx hret rfl (Or.inr (Or.inl ⟨rfl, rfl, z, rfl⟩)) hd hr
theorem own_narA {t : FieldType} {w : Value} (h : w.isRef = true) : narrow t w = w := by
  rcases ref_cases h with rfl | ⟨a, rfl⟩ <;> cases t <;> rfl
theorem own_retA (X : Stand p l e R s m args below meth c T locs cells slots) (hx : p.tables.exec = Jvm.exec) (hlocks : meth.locks = false) {pc : Nat} {Ls : Array Slot} {w : Value} {t : FieldType} {rest : List Value} (hret : meth.sig.returnType = some t) (ht : t.isReference = true) (hw : w.isRef = true)
    (hd : decode c.code pc = .ok (.areturn, 1)) {Qf : Option Value → Heap → List Loc → Prop} {C Sl : Nat} (eT : T.heap = h) (hc : cells ≤ C) (hs : slots ≤ Sl) (hq : Qf (some w) h locs) : OwnGo p e below (T.setTop (mkF m pc Ls (w :: rest))) (OwnEnd s Qf C Sl) :=
  own_end X hlocks (fun h => by rw [hret] at h; cases h) eT hc hs hq fun fs hr => retOut X hx hret (own_narA hw) (Or.inr (Or.inr (Or.inr (Or.inr ⟨rfl, ht, hw⟩)))) hd hr
theorem own_retV (X : Stand p l e R s m args below meth c T locs cells slots) (hx : p.tables.exec = Jvm.exec) (hlocks : meth.locks = false) {pc : Nat} {Ls : Array Slot} (hret : meth.sig.returnType = none)
    (hd : decode c.code pc = .ok (.return_, 1)) {Qf : Option Value → Heap → List Loc → Prop} {C Sl : Nat} (eT : T.heap = h) (hc : cells ≤ C) (hs : slots ≤ Sl) (hq : Qf none h locs) : OwnGo p e below (T.setTop (mkF m pc Ls [])) (OwnEnd s Qf C Sl) :=
  own_end X hlocks (fun _ => rfl) eT hc hs hq fun fs hr => X.returnOut hx hret hd hr
end OwnNew
section OwnTerms
variable {args : Array Value} {first s : State} {o : Option Outcome} {idx : List Nat} {t u : Term}
theorem own_eqint {k : Int32} (h : (Cond.eq t (.int k)).value args first o s idx = some true) : t.eval args first o idx s = some (.int k) := by
  cases ha : t.eval args first o idx s with
  | none => simp [Cond.value, ha] at h
  | some x =>
    have hb : (Term.int k).eval args first o idx s = some (.int k) := Term.int_eval k
    cases x <;> simp [Cond.value, ha, hb, Value.isRef] at h ⊢
    exact h
theorem own_eqref {w : Addr} (hu : u.eval args first o idx s = some (.ref w)) (h : (Cond.eq t u).value args first o s idx = some true) : t.eval args first o idx s = some (.ref w) := by
  cases ha : t.eval args first o idx s with
  | none => simp [Cond.value, ha] at h
  | some x =>
    cases x <;> simp [Cond.value, ha, hu, Value.isRef] at h ⊢
    exact h
end OwnTerms
section OwnArr
variable {s : State} {args : Array Value} {t u : Term} {a : Addr} {c : Cell} {ty : FieldType}
theorem own_nat32 {n : Nat} (h : n < 2 ^ 31) : n.toInt32.toNatClampNeg = n := by
  have e : n.toInt32.toInt = n := Int32.toInt_ofNat_of_lt h
  have := nat_of (j := n.toInt32) (by rw [Int32.lt_iff_toInt_lt, e]; have z : (0 : Int32).toInt = 0 := rfl; omega)
  omega
theorem own_len {n : Int32} (A : Arr s s.heap a c ty) (et : t.eval args s none [] s = some (.ref a)) (h : (Cond.eq (.length t) (.int n)).value args s none s [] = some true) {k : Nat} (hk : n.toNatClampNeg = k := by rfl) : c.slots.size = k := by
  have e := own_eqint h
  have ha : s.arrayAt? a = some c := IntBox.arrayAt_of A.1 A.2.1 A.2.2
  by_cases hl : c.slots.size < 2 ^ 31
  · rw [len_f et ha hl] at e
    have e2 : c.slots.size.toInt32 = n := by injection e with e; injection e
    rw [← hk, ← e2]
    exact (own_nat32 hl).symm
  · simp [Term.eval, et, ha, hl] at e
theorem own_elem {j k : Int32} (A : Arr s s.heap a c ty) (et : t.eval args s none [] s = some (.ref a)) (h : (Cond.eq (.elem t (.int j)) (.int k)).value args s none s [] = some true) (hj : ¬ j < 0) : c.slots[j.toNatClampNeg]? = some (.int k) := by
  have e := own_eqint h
  have ha : s.arrayAt? a = some c := IntBox.arrayAt_of A.1 A.2.1 A.2.2
  rw [elem_f et (Term.int_eval j) ha hj] at e
  exact e
theorem own_elemR {j : Int32} {w : Addr} (A : Arr s s.heap a c ty) (et : t.eval args s none [] s = some (.ref a)) (hu : u.eval args s none [] s = some (.ref w)) (h : (Cond.eq (.elem t (.int j)) u).value args s none s [] = some true) (hj : ¬ j < 0) : c.slots[j.toNatClampNeg]? = some (.ref w) := by
  have e := own_eqref hu h
  have ha : s.arrayAt? a = some c := IntBox.arrayAt_of A.1 A.2.1 A.2.2
  rw [elem_f et (Term.int_eval j) ha hj] at e
  exact e
end OwnArr
section OwnMore
variable {Z : State} {h h' : Heap}
theorem own_arr_ne {a b : Addr} {c d : Cell} {t u : FieldType} (A : Arr Z h a c t) (B : Arr Z h b d u) (q : t ≠ u) : a ≠ b := fun e => by
  subst e
  cases A.1.symm.trans B.1
  obtain ⟨-, k1, h1, cp1, h2⟩ := A.2.1
  obtain ⟨-, k2, h3, cp2, h4⟩ := B.2.1
  cases h1.symm.trans h3
  rw [h2] at h4
  injection h4 with _ h5
  exact q h5
theorem own_arv_ne {a b : Addr} {k k' : ClassId} {t u : FieldType} {z z' : Int32} {vs vs' : List Value} {d d' : Value} (A : Arv Z h a k t z vs d) (B : Arv Z h b k' u z' vs' d') (q : t ≠ u) : a ≠ b := by
  obtain ⟨c, A, -⟩ := A
  obtain ⟨c', B, -⟩ := B
  exact own_arr_ne A B q
theorem own_ext (K : Keep h h' []) : Ext h h' := ⟨K.1, fun x c q => K.2.1 x c q nin0⟩
theorem own_fitA {t : FieldType} {w : Value} (hw : w.isRef = true) (ht : t.isReference = true := by rfl) : fits t w = true := by
  rcases ref_cases hw with rfl | ⟨a, rfl⟩ <;> cases t <;> first | rfl | cases ht
end OwnMore
section OwnRem
variable {p : Program} {l : Launch} {e : Env} {R : Room} {s : State} {m : MethodId} {args : Array Value} {below : List Frame} {meth : Method} {c : Code} {T : State} {locs : List Loc} {cells slots : Nat}
theorem own_lrem {g : JFrame} {target : State} (X : Stand p l e R s m args below meth c T locs cells slots) (hx : p.tables.exec = Jvm.exec) (hg : g.method = m) {x y : Int64} {rest : List Value} (hd : decode c.code g.pc = .ok (.lrem, 1)) (hs : g.stack = .long y :: .long x :: rest) (hy : y ≠ 0)
    (hr : Steps p.tables e below (T.setTop { g with pc := g.pc + 1, stack := .long (x % y) :: rest }) target) : Steps p.tables e below (T.setTop g) target :=
  XS.lrem X.here hx hg hd hs hy (by rw [lrem_mod]; exact hr)
end OwnRem
end Jvm.RoadKit
namespace Jvm.RoadKit
open Sem ClassFile Op Lib Bundle Jvm.Stand Jvm.Free Jvm.LawKit Jvm.Free.SB Jvm.Free.SBG
section OwnWide
variable {p : Program} {l : Launch} {e : Env} {R : Room} {s : State} {m : MethodId} {args : Array Value} {below : List Frame} {meth : Method} {c : Code} {T : State} {locs : List Loc} {cells slots : Nat} {h h0 : Heap} {Z : State} {a0 : Array Value} {EL : List (String × Nat)} {vm0 : Vm} {k0 : Nat}
abbrev OwnEndW (Z : State) (EL : List (String × Nat)) (s : State) (Qf : Option Value → Heap → List Loc → Prop) (C S : Nat) : Outcome → State → Prop := fun o U' => ∃ v L, o = .returned v ∧ Qf v U'.heap L ∧ CHr Z EL s.vm s.heap U'.vm U'.heap ∧ ReturnedEndW s o U' L C S
theorem own_endW (X : Stand p l e R (s.setVm vm0) m args below meth c T locs cells slots) (hlocks : meth.locks = false) {v : Option Value} (hv : meth.sig.returnType = none → v = none) {S : State} {Qf : Option Value → Heap → List Loc → Prop} {C Sl : Nat}
    (hS : s.Since vm0 k0) (hk : k0 ≤ h.size) (hZ : Z.Warmed39 (s.setVm vm0).vm) (hEL : EW Z a0 EL) (CR : CHr Z EL s.vm s.heap vm0 h) (eT : T.heap = h) (hc : cells ≤ C) (hs : slots ≤ Sl) (hq : Qf v h locs)
    (step : ∀ fs : List Frame, (∀ (f : JFrame) (acts : List Action), f.method = m → f.locked = none → f.entered = [] → (doReturn e (T.setTop f) acts v).1 = T.setFrames fs) → Steps p.tables e below S (T.setFrames fs)) : OwnGo p e below S (OwnEndW Z EL s Qf C Sl) := by
  obtain ⟨fs, hr, hrun, hended, hw1, hw2, hw3, hw4⟩ := X.leaveW (v := v) hS (by rw [eT]; exact hk) hv hlocks
  refine ⟨_, _, step fs hr, hrun, hended, v, locs, rfl, ?_, ?_, hw1, hw2, hw3, hw4.mono hc hs⟩
  · show Qf v T.heap locs
    rw [eT]; exact hq
  · show CHr Z EL s.vm s.heap T.vm T.heap
    rw [eT]; exact CR.trans (CHv.at X hZ hEL CR.1)
theorem own_retNW (X : Stand p l e R (s.setVm vm0) m args below meth c T locs cells slots) (hx : p.tables.exec = Jvm.exec) (hlocks : meth.locks = false) {pc : Nat} {Ls : Array Slot} {z : Int32} {t : FieldType} {rest : List Value} (hret : meth.sig.returnType = some t) (ht : t = .boolean ∨ t = .byte ∨ t = .char ∨ t = .short) (hn : nar t z = z)
    (hS : s.Since vm0 k0) (hk : k0 ≤ h.size) (hZ : Z.Warmed39 (s.setVm vm0).vm) (hEL : EW Z a0 EL) (CR : CHr Z EL s.vm s.heap vm0 h)
    (hd : decode c.code pc = .ok (.ireturn, 1)) {Qf : Option Value → Heap → List Loc → Prop} {C Sl : Nat} (eT : T.heap = h) (hc : cells ≤ C) (hs : slots ≤ Sl) (hq : Qf (some (.int z)) h locs) : OwnGo p e below (T.setTop (mkF m pc Ls (.int z :: rest))) (OwnEndW Z EL s Qf C Sl) :=
  own_endW X hlocks (fun h => by rw [hret] at h; cases h) hS hk hZ hEL CR eT hc hs hq fun fs hr => retN X hx hret ht hd (by rw [hn]; exact hr)
theorem own_retIW (X : Stand p l e R (s.setVm vm0) m args below meth c T locs cells slots) (hx : p.tables.exec = Jvm.exec) (hlocks : meth.locks = false) {pc : Nat} {Ls : Array Slot} {z : Int32} {rest : List Value} (hret : meth.sig.returnType = some .int)
    (hS : s.Since vm0 k0) (hk : k0 ≤ h.size) (hZ : Z.Warmed39 (s.setVm vm0).vm) (hEL : EW Z a0 EL) (CR : CHr Z EL s.vm s.heap vm0 h)
    (hd : decode c.code pc = .ok (.ireturn, 1)) {Qf : Option Value → Heap → List Loc → Prop} {C Sl : Nat} (eT : T.heap = h) (hc : cells ≤ C) (hs : slots ≤ Sl) (hq : Qf (some (.int z)) h locs) : OwnGo p e below (T.setTop (mkF m pc Ls (.int z :: rest))) (OwnEndW Z EL s Qf C Sl) :=
  own_endW X hlocks (fun h => by rw [hret] at h; cases h) hS hk hZ hEL CR eT hc hs hq fun fs hr => retOut X hx hret rfl (Or.inl ⟨rfl, Or.inl rfl, z, rfl⟩) hd hr
theorem own_retJW (X : Stand p l e R (s.setVm vm0) m args below meth c T locs cells slots) (hx : p.tables.exec = Jvm.exec) (hlocks : meth.locks = false) {pc : Nat} {Ls : Array Slot} {z : Int64} {rest : List Value} (hret : meth.sig.returnType = some .long)
    (hS : s.Since vm0 k0) (hk : k0 ≤ h.size) (hZ : Z.Warmed39 (s.setVm vm0).vm) (hEL : EW Z a0 EL) (CR : CHr Z EL s.vm s.heap vm0 h)
    (hd : decode c.code pc = .ok (.lreturn, 1)) {Qf : Option Value → Heap → List Loc → Prop} {C Sl : Nat} (eT : T.heap = h) (hc : cells ≤ C) (hs : slots ≤ Sl) (hq : Qf (some (.long z)) h locs) : OwnGo p e below (T.setTop (mkF m pc Ls (.long z :: rest))) (OwnEndW Z EL s Qf C Sl) :=
  own_endW X hlocks (fun h => by rw [hret] at h; cases h) hS hk hZ hEL CR eT hc hs hq fun fs hr => retOut X hx hret rfl (Or.inr (Or.inl ⟨rfl, rfl, z, rfl⟩)) hd hr
theorem own_retAW (X : Stand p l e R (s.setVm vm0) m args below meth c T locs cells slots) (hx : p.tables.exec = Jvm.exec) (hlocks : meth.locks = false) {pc : Nat} {Ls : Array Slot} {w : Value} {t : FieldType} {rest : List Value} (hret : meth.sig.returnType = some t) (ht : t.isReference = true) (hw : w.isRef = true)
    (hS : s.Since vm0 k0) (hk : k0 ≤ h.size) (hZ : Z.Warmed39 (s.setVm vm0).vm) (hEL : EW Z a0 EL) (CR : CHr Z EL s.vm s.heap vm0 h)
    (hd : decode c.code pc = .ok (.areturn, 1)) {Qf : Option Value → Heap → List Loc → Prop} {C Sl : Nat} (eT : T.heap = h) (hc : cells ≤ C) (hs : slots ≤ Sl) (hq : Qf (some w) h locs) : OwnGo p e below (T.setTop (mkF m pc Ls (w :: rest))) (OwnEndW Z EL s Qf C Sl) :=
  own_endW X hlocks (fun h => by rw [hret] at h; cases h) hS hk hZ hEL CR eT hc hs hq fun fs hr => retOut X hx hret (own_narA hw) (Or.inr (Or.inr (Or.inr (Or.inr ⟨rfl, ht, hw⟩)))) hd hr
theorem own_retVW (X : Stand p l e R (s.setVm vm0) m args below meth c T locs cells slots) (hx : p.tables.exec = Jvm.exec) (hlocks : meth.locks = false) {pc : Nat} {Ls : Array Slot} (hret : meth.sig.returnType = none)
    (hS : s.Since vm0 k0) (hk : k0 ≤ h.size) (hZ : Z.Warmed39 (s.setVm vm0).vm) (hEL : EW Z a0 EL) (CR : CHr Z EL s.vm s.heap vm0 h)
    (hd : decode c.code pc = .ok (.return_, 1)) {Qf : Option Value → Heap → List Loc → Prop} {C Sl : Nat} (eT : T.heap = h) (hc : cells ≤ C) (hs : slots ≤ Sl) (hq : Qf none h locs) : OwnGo p e below (T.setTop (mkF m pc Ls [])) (OwnEndW Z EL s Qf C Sl) :=
  own_endW X hlocks (fun _ => rfl) hS hk hZ hEL CR eT hc hs hq fun fs hr => X.returnOut hx hret hd hr
/-- a callee that may intern and keeps the invariant; the cells SL are no booked Strings' -/
theorem own_backH {y : MethodName} {bytes : ByteArray} {maxL : Nat} {ret : Option FieldType} {rm : Room} {len W : Nat} {as' : Array Value} {Q : Option Value → Heap → List Loc → Prop} {SL : List Addr}
    (hM : MetFree l y (head1 [Cond.code y bytes maxL ret] rm) (fun a U => a = as' ∧ Z.Warmed39 U.vm ∧ U.heap = h ∧ CHv Z EL U.vm h ∧ ∀ x ∈ SL, Safe Z EL U.vm h x) (fun _ _ _ _ _ => True) (fun _ U o U' => OwnEndW Z EL U Q rm.cells rm.slots o U'))
    (hZ : Z.Warmed39 (s.setVm vm0).vm) (wc : (Cond.code y bytes maxL ret).before a0 Z = true) (wz : (Cond.initialized y.cls).before a0 Z = true) (hf : rm.frames + 1 ≤ R.frames) (hl : W + (maxL + 11) + rm.locals ≤ R.locals) (hEL : EW Z a0 EL) (H : CHv Z EL vm0 h) (hsf : ∀ x ∈ SL, Safe Z EL vm0 h x) (hlt : ∀ x ∈ SL, x < h.size) :
    BackS l R p e below (s.setVm vm0) args y len W (fun A a => a = as' ∧ A.U.heap = h ∧ A.cells + rm.cells ≤ R.cells ∧ A.slots + rm.slots ≤ R.slots)
      (fun A _ v B => ∃ L, Q v B.U.heap L ∧ B.locs = A.locs ++ L ∧ B.cells = A.cells + rm.cells ∧ B.slots = A.slots + rm.slots ∧ CHr Z EL vm0 h B.U.vm B.U.heap) :=
  have hZ' : Z.Warmed39 vm0 := hZ
  BackS.of_freeW (bytes := bytes) (maxL := maxL) (ret := ret) (E := fun _ first o t L k n => k = rm.cells ∧ n = rm.slots ∧ (∃ v, o = .returned v ∧ Q v t.heap L) ∧ CHr Z EL first.vm first.heap t.vm t.heap) hM hf hl
    (fun m meth c A a Y hp => have hU : Z.Warmed39 A.U.vm := wtrans (s := s.setVm vm0) hZ' Y.warmed
      ⟨by show (Cond.and _ .tt).before a A.U = true; rw [Cond.before_and, mv hU wc]; rfl, mv hU wc, mv hU wz, hp.2.2.1, hp.2.2.2⟩)
    (fun m meth c A a g mk Y hp => ⟨hp.1, wtrans (s := s.setVm vm0) hZ' Y.warmed, hp.2.1, (CHv.at Y hZ' hEL H).1, fun x hx => (CHv.at Y hZ' hEL H).safe (hlt x hx) (hsf x hx)⟩) (fun _ _ _ _ _ _ _ _ _ => trivial)
    (fun _ _ _ _ ⟨v, L, h1, h2, h3, h4⟩ => ⟨L, _, _, h4, rfl, rfl, ⟨v, h1, h2⟩, h3⟩)
    (fun m meth c A a g mk v t L k n Y hp _ _ ⟨e1, e2, ⟨v', e3, e4⟩, e5⟩ => by
      cases e3; subst e1 e2
      refine ⟨L, e4, rfl, rfl, rfl, (CHv.at Y hZ' hEL H).trans ?_⟩
      rw [← hp.2.1]; exact e5)
/-- where a wide walk stands: all that its steps ask, bundled -/
def OwnSt (p : Program) (l : Launch) (e : Env) (R : Room) (s : State) (m : MethodId) (args : Array Value) (below : List Frame) (meth : Method) (c : Code) (Z : State) (EL : List (String × Nat)) (own : String) (n0 : Nat) (h0 : Heap) (ws : List Addr) (T : State) (h : Heap) (cells slots : Nat) : Prop :=
  ∃ (vm0 : Vm) (k0 : Nat) (locs : List Loc), Stand p l e R (s.setVm vm0) m args below meth c T locs cells slots ∧ T.heap = h ∧ s.Since vm0 k0 ∧ k0 ≤ h.size ∧ Z.Warmed39 (s.setVm vm0).vm ∧ (s.setVm vm0).vm.findClass own = some m.cls ∧ CHr Z EL s.vm h0 vm0 h ∧ Old Z n0 h ∧ Keep h0 h ws ∧ n0 ≤ h.size ∧ Fr n0 locs
end OwnWide
end Jvm.RoadKit
namespace Jvm.RoadKit
open Sem ClassFile Op Lib Bundle Jvm.Stand Jvm.Free Jvm.LawKit Jvm.Free.SB Jvm.Free.SBG
/-- the class of a booked constant's bytes -/
theorem own_litB {s Z : State} {EL : List (String × Nat)} {own : String} {index : Nat} {text : String} {vm : Vm} {h : Heap} {a b : Addr} {a0 : Array Value} {cl : ClassId} (hW : Z.Warmed39 vm) (w : (Cond.stringLink own index text).before a0 Z = true) (hf : vm.findClass own = some cl) (hmem : (own, index) ∈ EL) (H : CHv Z EL vm h) (hL : Lit (s.setVm vm) own index a) (F : Fld Z h a "java/lang/String" "value" "[B" (.ref b)) : Exa Z h b "[B" := by
  have hal : Z.vm.Alike vm := hW.alike
  have w2 : (Cond.stringLink own index text).before a0 (Wst Z vm h) = true := mvS (s := { Z with heap := h }) hW w
  obtain ⟨k0', cf, i, units, hkx, hcf, hp, hu, -, htext, -⟩ := Cond.stringLink_spec (s := Wst Z vm h) hf w2
  have hres : k0'.resolved[index]? = some (some (.string a)) := by
    have q : (s.setVm vm).resolvedAt? own index = some (.string a) := hL
    have hk' : vm.classes[cl]? = some k0' := hkx
    simp [State.resolvedAt?, hf, hk'] at q
    cases hr : k0'.resolved[index]? with
    | none => rw [hr] at q; cases q
    | some o => rw [hr] at q; cases o with
      | none => cases q
      | some r => simpa using q
  obtain ⟨q, hqa, G⟩ := SlB.of (H _ hmem units a ⟨cl, k0', cf, i, hf, hkx, hcf, hp, hu, Or.inl hres⟩)
  obtain ⟨cS, ⟨⟨s1, s2, s3, ⟨cv, kv, iv, s4, s4'⟩, ⟨cc, kc, ic, s5, s5'⟩, s6, s7, s8, s9, s10, s11, s12, s13, s14, s15, s16⟩, hfS, hcS⟩, -, hB, hbyt⟩ := G
  subst hqa
  have hB : vm.findClass "[B" = some q.SA.cls := hB
  obtain ⟨kv', z4⟩ := ff_back (U := Wst Z vm h) hal s4
  have F2 : Fld Z h q.sa "java/lang/String" "value" "[B" (.ref q.sd) := ⟨q.sC, cv, kv', iv, q.fSV, s1, z4, s6, s2, s3, by rw [← hal.assignable]; exact s4', s8⟩
  have e : b = q.sd := Decidable.byContradiction fun z => Fld.ne F F2 (fun y => z (Value.ref.inj y)) rfl
  subst e
  have hBZ : Z.vm.findClass "[B" = some q.SA.cls := by rw [← hal.findClass]; exact hB
  obtain ⟨kb, hkb, -⟩ := Vm.findClass_spec hBZ
  obtain ⟨kb', hkb', ekb⟩ := hal.2.2 _ _ hkb
  obtain ⟨hst, k9, hk9, comp, hkind9⟩ := s11
  have hk9 : vm.classes[q.SA.cls]? = some k9 := hk9
  have ek9 : k9 = kb' := Option.some.inj (hk9.symm.trans hkb')
  refine ⟨q.SA, kb, s10, hBZ, hkb, ?_, fun y => ?_⟩
  · cases hv : q.SA.vm with
    | statics k => exact absurd hv (hst k)
    | _ => rfl
  · rw [ek9, ekb] at hkind9
    rw [show kb.kind = _ from hkind9] at y
    cases y
/-- the class of a byte[] that bears the class's number -/
theorem own_exaB {Z : State} {h : Heap} {t : Addr} {kb : ClassId} {z : Int32} {vs : List Value} {d : Value} (f : Z.vm.findClass "[B" = some kb) (A : Arv Z h t kb .byte z vs d) : Exa Z h t "[B" := by
  obtain ⟨c, ⟨h1, ⟨hst, k, hk, comp, kk⟩, h3⟩, rfl, -⟩ := A
  refine ⟨c, k, h1, f, hk, ?_, fun q => by rw [kk] at q; cases q⟩
  cases hv : c.vm with
  | statics k => exact absurd hv (hst k)
  | _ => rfl
theorem own_fitB {Z : State} {h : Heap} {t : Addr} {k : ClassId} {z : Int32} {vs : List Value} {d : Value} {c : Cell} (A : Arv Z h t k .byte z vs d) (hc : h[t]? = some c) : FitC Z c := by
  obtain ⟨c', ⟨h1, ⟨hst, kc, hk, comp, kk⟩, h3⟩, rfl, h5, h6, h7, h8⟩ := A
  cases h1.symm.trans hc
  intro i v hv
  have hi : i < c.slots.size := (Array.getElem?_eq_some_iff.mp hv).1
  have e := h7 i hi
  have g := h8 i hi
  rw [hv] at e
  cases e
  unfold State.fitsSlot State.slotType?
  simp [hk, kk]
  exact g
/-- a String is no instance of a plain class whose name is another -/
theorem own_noinst {Z : State} {a0 : Array Value} {C O K : String} {n : Nat} (w : (Cond.superclass C O).before a0 Z = true) (wo : (Cond.noSuperclass O).before a0 Z = true) (wi : (Cond.instantiable K n).before a0 Z = true) (h1 : C ≠ K) (h2 : O ≠ K) : ∃ c t, Z.vm.findClass C = some c ∧ Z.vm.findClass K = some t ∧ Z.vm.assignable c t = false := by
  obtain ⟨t, kt, g1, g2, g3, g4, -, -⟩ := Cond.instantiable_spec wi
  obtain ⟨o, ko, f1, f2, f3, -, -⟩ := Cond.noSuperclass_spec wo
  obtain ⟨c, e0⟩ := found_sup w
  obtain ⟨p, k, kp, e1, e2, e3, e4, e5, -, e7⟩ := Cond.superclass_spec e0 w
  cases f1.symm.trans e1
  have n1 := ids_ne e0 g1 h1
  have n2 := ids_ne f1 g1 h2
  have g5 : kt.isInterface = false := by
    cases hi : kt.isInterface with
    | false => rfl
    | true => rw [hi] at g4; exact absurd g4 (by simp)
  refine ⟨c, t, e0, g1, ?_⟩
  have sub : ∀ fuel, Z.vm.isSubclassAux fuel o t = false := fun fuel => by
    cases fuel with
    | zero => rfl
    | succ f => simp [Vm.isSubclassAux, n2, f2, f3]
  have sub2 : ∀ fuel, Z.vm.isSubclassAux fuel c t = false := fun fuel => by
    cases fuel with
    | zero => rfl
    | succ f => simp [Vm.isSubclassAux, n1, e2, e4, sub]
  show Z.vm.assignableAux (255 + 1) c t = false
  simp [Vm.assignableAux, n1, e2, g2, e5, g3, g5, Vm.isSubclass, sub2]
end Jvm.RoadKit
namespace Jvm.Pilot.@@N@@
open Jvm Jvm.ClassFile Sem Op Lib Jvm.Free Jvm.Stand Jvm.LawKit Jvm.RoadKit Bundle Jvm.Pilot.@@N@@.Jvm.D
abbrev own_EL : List (String × Nat) := consts_1
theorem own_EW {Z : State} {a0 : Array Value} (hw : ∀ d ∈ tables_1, d.before a0 Z = true) : EW Z a0 own_EL := (EW.cons (hw _ (List.mem_of_getElem? (i := 39) rfl)) (by decide +kernel) (EW.cons (hw _ (List.mem_of_getElem? (i := 86) rfl)) (by decide +kernel) (EW.cons (hw _ (List.mem_of_getElem? (i := 18) rfl)) (by decide +kernel) EW.nil)))
theorem own_wS {Z : State} {a0 : Array Value} (hw : ∀ d ∈ tables_1, d.before a0 Z = true) : ∀ a ∈ Bundle.stringAtoms, a.before a0 Z = true := fun d hd => hw d ((by decide +kernel : ∀ d ∈ Bundle.stringAtoms, d ∈ tables_1) d hd)

/-- a is an ordinary Latin-1 String whose bytes are bs -/
def OwnStr (Z : State) (h : Heap) (a : Addr) (bs : List Int32) : Prop := ∃ (t : Addr) (k : ClassId), Exa Z h a "java/lang/String" ∧ Fld Z h a "java/lang/String" "coder" "B" (.int 0) ∧ Fld Z h a "java/lang/String" "value" "[B" (.ref t) ∧ Arv Z h t k .byte (Int32.ofNat bs.length) (bs.map Value.int) (.int 0) ∧ bs.length ≤ 4000 ∧ Exa Z h t "[B"
theorem OwnStr.ext {Z : State} {h h' : Heap} {a : Addr} {bs : List Int32} (E : Ext h h') (F : OwnStr Z h a bs) : OwnStr Z h' a bs := by
  obtain ⟨t, k, h1, h2, h3, h4, h5, h6⟩ := F
  exact ⟨t, k, h1.ext E, h2.ext E, h3.ext E, h4.ext E, h5, h6.ext E⟩
theorem OwnStr.exa {Z : State} {h : Heap} {a : Addr} {bs : List Int32} (F : OwnStr Z h a bs) : Exa Z h a "java/lang/String" := by
  obtain ⟨t, k, h1, h2, h3, h4, h5, h6⟩ := F
  exact h1
theorem own_exaarv {Z : State} {h : Heap} {t w : Addr} {C : String} {k : ClassId} {ty : FieldType} {z : Int32} {vs : List Value} {d : Value} {a0 : Array Value} {n : Nat} (A : Arv Z h t k ty z vs d) (E : Exa Z h w C) (wi : (Cond.instantiable C n).before a0 Z = true) : t ≠ w := Ne.symm (Exa.neArv E A wi)
theorem OwnStr.wrA {Z : State} {h h' : Heap} {a w : Addr} {bs : List Int32} {sl : Nat} {v : Value} {k : ClassId} {ty : FieldType} {z : Int32} {vs : List Value} {d : Value} {a0 : Array Value} {n : Nat} (W : Wr h h' w sl v) (A : Arv Z h w k ty z vs d) (q : ty ≠ .byte) (wi : (Cond.instantiable "java/lang/String" n).before a0 Z = true) (F : OwnStr Z h a bs) : OwnStr Z h' a bs := by
  obtain ⟨t, k', h1, h2, h3, h4, h5, h6⟩ := F
  have n1 : a ≠ w := Exa.neArv h1 A wi
  have n2 : t ≠ w := Ne.symm (own_arv_ne A h4 q)
  exact ⟨t, k', h1.wr W, h2.other W (Or.inl n1), h3.other W (Or.inl n1), h4.other W n2, h5, h6.wr W⟩
theorem OwnStr.wrE {Z : State} {h h' : Heap} {a w : Addr} {bs : List Int32} {sl : Nat} {v : Value} {C : String} {a0 : Array Value} {n : Nat} (W : Wr h h' w sl v) (E : Exa Z h w C) (q : C ≠ "java/lang/String") (wi : (Cond.instantiable C n).before a0 Z = true) (F : OwnStr Z h a bs) : OwnStr Z h' a bs := by
  obtain ⟨t, k', h1, h2, h3, h4, h5, h6⟩ := F
  have n1 : a ≠ w := Exa.ne h1 E (Ne.symm q)
  have n2 : t ≠ w := own_exaarv h4 E wi
  exact ⟨t, k', h1.wr W, h2.other W (Or.inl n1), h3.other W (Or.inl n1), h4.other W n2, h5, h6.wr W⟩
theorem OwnStr.keepE {Z : State} {h h' : Heap} {a w : Addr} {bs : List Int32} {C : String} {a0 : Array Value} {n : Nat} (K : Keep h h' [w]) (E : Exa Z h w C) (q : C ≠ "java/lang/String") (wi : (Cond.instantiable C n).before a0 Z = true) (F : OwnStr Z h a bs) : OwnStr Z h' a bs := by
  obtain ⟨t, k', h1, h2, h3, h4, h5, h6⟩ := F
  have n1 : a ≠ w := Exa.ne h1 E (Ne.symm q)
  have n2 : t ≠ w := own_exaarv h4 E wi
  exact ⟨t, k', h1.keep K, h2.keep K (ninS n1 nin0), h3.keep K (ninS n1 nin0), h4.keep K (ninS n2 nin0), h5, h6.keep K⟩
theorem own_i32 {n : Nat} (h : n < 2 ^ 31) : (Int32.ofNat n).toInt = n := Int32.toInt_ofNat_of_lt h
theorem own_nn {n : Nat} (h : n < 2 ^ 31) : ¬ Int32.ofNat n < 0 := by
  rw [Int32.lt_iff_toInt_lt, own_i32 h]
  have z : (0 : Int32).toInt = 0 := rfl
  omega
theorem own_clamp {n : Nat} (h : n < 2 ^ 31) : (Int32.ofNat n).toNatClampNeg = n := by
  have := nat_of (own_nn h)
  rw [own_i32 h] at this
  omega
theorem own_lti {i n : Nat} (h : n < 2 ^ 31) (hi : i < n) : Int32.ofNat i < Int32.ofNat n := by
  rw [Int32.lt_iff_toInt_lt, own_i32 h, own_i32 (Nat.lt_trans hi h)]
  omega
theorem own_eqi {i n : Nat} (hi : i < 2 ^ 31) (h : n < 2 ^ 31) (e : Int32.ofNat i = Int32.ofNat n) : i = n := by
  have := congrArg Int32.toInt e
  rw [own_i32 h, own_i32 hi] at this
  omega
theorem own_suci (i : Nat) : Int32.ofNat i + (1 : Int32) = Int32.ofNat (i + 1) := (Int32.ofNat_add i 1).symm
theorem own_mapget (bs : List Int32) (i : Nat) (hi : i < 2 ^ 31) : (bs.map Value.int).getD (Int32.ofNat i).toNatClampNeg (.int 0) = .int (bs.getD i 0) := by
  rw [own_clamp hi]
  simp only [List.getD_eq_getElem?_getD, List.getElem?_map]
  cases bs[i]? <;> rfl
theorem own_exteq {bs ds : List Int32} (hl : bs.length = ds.length) (h : ∀ j, j < bs.length → bs.getD j 0 = ds.getD j 0) : bs = ds := by
  apply List.ext_getElem hl
  intro i h1 h2
  have := h i h1
  simpa [List.getD_eq_getElem?_getD, h1, h2] using this

abbrev own_b (y : Int32) : Int32 := (nar .char y).toInt8.toInt32
theorem own_c255 (x : Int32) : ¬ nar .char ((x &&& (255 : Int32)).toUInt32.toUInt16.toUInt32.toInt32) < 0 ∧ ¬ (255 : Int32) < nar .char ((x &&& (255 : Int32)).toUInt32.toUInt16.toUInt32.toInt32) := by
  have e1 : nar .char ((x &&& (255 : Int32)).toUInt32.toUInt16.toUInt32.toInt32) = x &&& 255 := by
    show ((x &&& (255 : Int32)).toUInt32.toUInt16.toUInt32.toInt32).toUInt32.toUInt16.toUInt32.toInt32 = _
    rw [i2c_mask, i2c_mask]
  rw [e1]
  have h := c_and x 255 (by decide)
  have z : (0 : Int32).toInt = 0 := rfl
  have z2 : (255 : Int32).toInt = 255 := rfl
  constructor <;> rw [Int32.lt_iff_toInt_lt] <;> omega
theorem own_all0 {P : Int32 → Prop} : ∀ x ∈ ([] : List Int32), P x := fun _ q => nomatch q
theorem own_allS {P : Int32 → Prop} {y : Int32} {L : List Int32} (q : P y) (r : ∀ x ∈ L, P x) : ∀ x ∈ y :: L, P x := fun x z => (List.mem_cons.mp z).elim (fun u => u ▸ q) (r x)

abbrev own_ch (b : Int32) : Int32 := (b &&& (255 : Int32)).toUInt32.toUInt16.toUInt32.toInt32
theorem own_narch (y : Int32) : nar .char (own_ch y) = own_ch y := by
  show ((y &&& (255 : Int32)).toUInt32.toUInt16.toUInt32.toInt32).toUInt32.toUInt16.toUInt32.toInt32 = (y &&& (255 : Int32)).toUInt32.toUInt16.toUInt32.toInt32
  rw [i2c_mask, i2c_mask]
theorem own_shr0 (x : Int32) : x >>> ((0 : Int32) &&& 31) = x := by
  have e : ((0 : Int32) &&& 31) = 0 := by decide
  rw [e]; simp
theorem own_subi {a b : Nat} (h : b ≤ a) : (Int32.ofNat a - Int32.ofNat b : Int32) = Int32.ofNat (a - b) := by
  obtain ⟨d, rfl⟩ := Nat.exists_eq_add_of_le h
  rw [Nat.add_sub_cancel_left, Int32.ofNat_add, Int32.add_comm, Int32.add_sub_cancel]
theorem own_nlti {i n : Nat} (hi : i < 2 ^ 31) (h : n ≤ i) : ¬ Int32.ofNat i < Int32.ofNat n := by
  rw [Int32.lt_iff_toInt_lt, own_i32 hi, own_i32 (Nat.lt_of_le_of_lt h hi)]
  omega
theorem own_i32eq {x y : Int32} (h1 : ¬ x < y) (h2 : ¬ y < x) : x = y := by
  rw [Int32.lt_iff_toInt_lt] at h1 h2
  exact Int32.toInt_inj.mp (by omega)
theorem own_cut (bs : List Int32) (s m : Nat) (hm : m ≤ 4) (h : s + m ≤ bs.length) (hb : bs.length < 2 ^ 31) : ∀ i, (((bs.drop s).take m).map Value.int).getD i (.int 0) = (([.int 0, .int 0, .int 0, .int 0] : List Value).take (0 : Int32).toNatClampNeg ++ ((List.range (Int32.ofNat m).toNatClampNeg).map fun i => (bs.map Value.int).getD ((Int32.ofNat s).toNatClampNeg + i) (.int 0)) ++ ([.int 0, .int 0, .int 0, .int 0] : List Value).drop ((0 : Int32).toNatClampNeg + (Int32.ofNat m).toNatClampNeg)).getD i (.int 0) := by
  intro i
  have z : (0 : Int32).toNatClampNeg = 0 := rfl
  · rw [own_clamp (by omega), own_clamp (by omega), z]
    simp only [List.take_zero, List.nil_append, Nat.zero_add, List.getD_eq_getElem?_getD]
    by_cases hi : i < m
    · rw [List.getElem?_append_left (by simp; omega)]
      simp only [List.getElem?_map, List.getElem?_take_of_lt hi, List.getElem?_drop, List.getElem?_range hi, Option.map_some, Option.getD_some]
    · rw [List.getElem?_append_right (by simp; omega), List.getElem?_eq_none (by simp; omega)]
      simp only [List.length_map, List.length_range]
      match m, hm with
      | 0, _ => match i with
        | 0 => rfl
        | 1 => rfl
        | 2 => rfl
        | 3 => rfl
        | k + 4 => simp
      | 1, _ => match i, hi with
        | 1, _ => rfl
        | 2, _ => rfl
        | 3, _ => rfl
        | k + 4, _ => simp
      | 2, _ => match i, hi with
        | 2, _ => rfl
        | 3, _ => rfl
        | k + 4, _ => simp
      | 3, _ => match i, hi with
        | 3, _ => rfl
        | k + 4, _ => simp
      | 4, _ => simp
theorem own_wV {Z : State} {a0 : Array Value} (hw : ∀ d ∈ tables_1, d.before a0 Z = true) : ∀ d ∈ StrChars.Road.words, d.before a0 Z = true := fun d hd => hw d ((by decide +kernel : ∀ d ∈ StrChars.Road.words, d ∈ tables_1) d hd)
theorem leq_d0 : decode jdk_43_method_13_code 0 = .ok (.aload_n 0, 1) := by decide +kernel
theorem leq_d1 : decode jdk_43_method_13_code 1 = .ok (.arraylength, 1) := by decide +kernel
theorem leq_d2 : decode jdk_43_method_13_code 2 = .ok (.aload_n 1, 1) := by decide +kernel
theorem leq_d3 : decode jdk_43_method_13_code 3 = .ok (.arraylength, 1) := by decide +kernel
theorem leq_d4 : decode jdk_43_method_13_code 4 = .ok (.if_icmp .ne 30, 3) := by decide +kernel
theorem leq_d7 : decode jdk_43_method_13_code 7 = .ok (.iconst 0, 1) := by decide +kernel
theorem leq_d8 : decode jdk_43_method_13_code 8 = .ok (.istore_n 2, 1) := by decide +kernel
theorem leq_d9 : decode jdk_43_method_13_code 9 = .ok (.iload_n 2, 1) := by decide +kernel
theorem leq_d10 : decode jdk_43_method_13_code 10 = .ok (.aload_n 0, 1) := by decide +kernel
theorem leq_d11 : decode jdk_43_method_13_code 11 = .ok (.arraylength, 1) := by decide +kernel
theorem leq_d12 : decode jdk_43_method_13_code 12 = .ok (.if_icmp .ge 20, 3) := by decide +kernel
theorem leq_d15 : decode jdk_43_method_13_code 15 = .ok (.aload_n 0, 1) := by decide +kernel
theorem leq_d16 : decode jdk_43_method_13_code 16 = .ok (.iload_n 2, 1) := by decide +kernel
theorem leq_d17 : decode jdk_43_method_13_code 17 = .ok (.baload, 1) := by decide +kernel
theorem leq_d18 : decode jdk_43_method_13_code 18 = .ok (.aload_n 1, 1) := by decide +kernel
theorem leq_d19 : decode jdk_43_method_13_code 19 = .ok (.iload_n 2, 1) := by decide +kernel
theorem leq_d20 : decode jdk_43_method_13_code 20 = .ok (.baload, 1) := by decide +kernel
theorem leq_d21 : decode jdk_43_method_13_code 21 = .ok (.if_icmp .eq 5, 3) := by decide +kernel
theorem leq_d24 : decode jdk_43_method_13_code 24 = .ok (.iconst 0, 1) := by decide +kernel
theorem leq_d25 : decode jdk_43_method_13_code 25 = .ok (.ireturn, 1) := by decide +kernel
theorem leq_d26 : decode jdk_43_method_13_code 26 = .ok (.iinc 2 1, 3) := by decide +kernel
theorem leq_d29 : decode jdk_43_method_13_code 29 = .ok (.goto (-20), 3) := by decide +kernel
theorem leq_d32 : decode jdk_43_method_13_code 32 = .ok (.iconst 1, 1) := by decide +kernel
theorem leq_d33 : decode jdk_43_method_13_code 33 = .ok (.ireturn, 1) := by decide +kernel
theorem leq_d34 : decode jdk_43_method_13_code 34 = .ok (.iconst 0, 1) := by decide +kernel
theorem leq_d35 : decode jdk_43_method_13_code 35 = .ok (.ireturn, 1) := by decide +kernel
theorem leq_pn : plainName "java/lang/StringLatin1" = true := by first | (simp [plainName, overriddenIn]; done) | decide +kernel
theorem leq_ef (m : MethodId) (x0 : Addr) (x1 : Addr) : entryFrame m #[(.ref x0), (.ref x1)] 3 = mkF m 0 #[.val (.ref x0), .val (.ref x1), .unset] [] := by first | (simp [entryFrame, mkF, argsToLocals, Value.category]; done) | rfl
set_option maxRecDepth 65536 in
set_option maxHeartbeats 40000000 in
theorem rm_leq (l : Launch) (Z : State) (a0 : Array Value) (hw : ∀ d ∈ tables_1, d.before a0 Z = true) (ws : List Jvm.Cond) (t1 : Addr) (t2 : Addr) (k1 : ClassId) (k2 : ClassId) (bs : List Int32) (ds : List Int32) (h0 : Heap) (n0 : Nat) (Z0 : n0 ≤ h0.size) (V1 : Arv Z h0 t1 k1 .byte (Int32.ofNat bs.length) (bs.map Value.int) (.int 0)) (V2 : Arv Z h0 t2 k2 .byte (Int32.ofNat ds.length) (ds.map Value.int) (.int 0)) (m1 : bs.length ≤ 4000) (m2 : ds.length ≤ 4000) :
    MetFree l (⟨"java/lang/StringLatin1", "equals", "([B[B)Z"⟩ : MethodName) (head1 (Jvm.Cond.code (⟨"java/lang/StringLatin1", "equals", "([B[B)Z"⟩ : MethodName) jdk_43_method_13_code 3 (some .boolean) :: ws) ({ frames := 0, cells := 0, slots := 0, locals := 0 } : Room)) (fun a U => a = #[(.ref t1), (.ref t2)] ∧ Z.Warmed39 U.vm ∧ U.heap = h0) (fun _ _ _ _ _ => True) (fun _ U o U' => OwnEnd U (fun v h L => v = some (.int (if bs = ds then 1 else 0)) ∧ Fr n0 L ∧ h = h0) ({ frames := 0, cells := 0, slots := 0, locals := 0 } : Room).cells ({ frames := 0, cells := 0, slots := 0, locals := 0 } : Room).slots o U') := by
  refine MetFree.of_bodySF (plainFor_of_name leq_pn) hisR ?_
  intro p e s m args below meth c s₁ Bd hml0 hP hK
  obtain ⟨rfl, hZ, hh⟩ := hP
  have hx := Bd.exec
  have hby := Bd.bytes
  have hml : c.maxLocals = 3 := hml0
  have hown : s.vm.findClass "java/lang/StringLatin1" = some m.cls := findClass_of_methodNamed Bd.named
  have hnm := (name_of_methodNamed Bd.named Bd.method).1
  have X0 : Stand p l e ({ frames := 0, cells := 0, slots := 0, locals := 0 } : Room) s m #[(.ref t1), (.ref t2)] below meth c s₁ [] 0 0 := Stand.of_body Bd
  have e0 : s₁.heap = h0 := by rw [← hh, Bd.state]; rfl
  have N0 := Fr.nil n0
  have KP0 := Keep.refl h0 []
  refine own_go (Q := (OwnEnd s (fun v h L => v = some (.int (if bs = ds then 1 else 0)) ∧ Fr n0 L ∧ h = h0) ({ frames := 0, cells := 0, slots := 0, locals := 0 } : Room).cells ({ frames := 0, cells := 0, slots := 0, locals := 0 } : Room).slots)) ?_
  refine own_back (fun t k => castTop (leq_ef m t1 t2) k) ?_
  show OwnGo p e below (s₁.setTop (mkF m 0 #[.val (.ref t1), .val (.ref t2), .unset] [])) _
  refine own_back (fun t k => XS.aloadN X0.here hx rfl (hb hby leq_d0) rfl rfl k) ?_
  show OwnGo p e below (s₁.setTop (mkF m 1 #[.val (.ref t1), .val (.ref t2), .unset] [(.ref t1)])) _
  obtain ⟨c111, A111, q111, S111, M111, H111, U111⟩ := id V1
  refine own_back (fun t k => X0.arraylength hx (own_hat e0 A111.1) (State.isArrayOf_alike hZ.alike A111.2.1) (g := (mkF m 1 #[.val (.ref t1), .val (.ref t2), .unset] [(.ref t1)])) rfl rfl (hb hby leq_d1) t k) ?_
  rw [len_of S111 M111]
  show OwnGo p e below (s₁.setTop (mkF m 2 #[.val (.ref t1), .val (.ref t2), .unset] [(.int (Int32.ofNat bs.length))])) _
  refine own_back (fun t k => XS.aloadN X0.here hx rfl (hb hby leq_d2) rfl rfl k) ?_
  show OwnGo p e below (s₁.setTop (mkF m 3 #[.val (.ref t1), .val (.ref t2), .unset] [(.ref t2), (.int (Int32.ofNat bs.length))])) _
  obtain ⟨c112, A112, q112, S112, M112, H112, U112⟩ := id V2
  refine own_back (fun t k => X0.arraylength hx (own_hat e0 A112.1) (State.isArrayOf_alike hZ.alike A112.2.1) (g := (mkF m 3 #[.val (.ref t1), .val (.ref t2), .unset] [(.ref t2), (.int (Int32.ofNat bs.length))])) rfl rfl (hb hby leq_d3) t k) ?_
  rw [len_of S112 M112]
  show OwnGo p e below (s₁.setTop (mkF m 4 #[.val (.ref t1), .val (.ref t2), .unset] [(.int (Int32.ofNat ds.length)), (.int (Int32.ofNat bs.length))])) _
  by_cases hc4_113 : (Int32.ofNat bs.length) = (Int32.ofNat ds.length)
  · refine own_back (fun t k => XS.icmpNo X0.here hx rfl (hb hby leq_d4) rfl (Jvm.Free.XT.ii_ne_f hc4_113) k) ?_
    show OwnGo p e below (s₁.setTop (mkF m 7 #[.val (.ref t1), .val (.ref t2), .unset] [])) _
    refine own_back (fun t k => XS.iconst X0.here hx rfl (hb hby leq_d7) k) ?_
    show OwnGo p e below (s₁.setTop (mkF m 8 #[.val (.ref t1), .val (.ref t2), .unset] [(.int (0 : Int32))])) _
    refine own_back (fun t k => XS.istoreN X0.here hx rfl (hb hby leq_d8) rfl (l' := #[.val (.ref t1), .val (.ref t2), .val (.int (0 : Int32))]) rfl k) ?_
    show OwnGo p e below (s₁.setTop (mkF m 9 #[.val (.ref t1), .val (.ref t2), .val (.int (0 : Int32))] [])) _
    have hl114 : bs.length = ds.length := own_eqi (by omega) (by omega) hc4_113
    have loop : ∀ (j i : Nat), i + j = bs.length → (∀ q, q < i → bs.getD q 0 = ds.getD q 0) → OwnGo p e below (s₁.setTop (mkF m 9 #[.val (.ref t1), .val (.ref t2), .val (.int (Int32.ofNat i))] [])) (OwnEnd s (fun v h L => v = some (.int (if bs = ds then 1 else 0)) ∧ Fr n0 L ∧ h = h0) ({ frames := 0, cells := 0, slots := 0, locals := 0 } : Room).cells ({ frames := 0, cells := 0, slots := 0, locals := 0 } : Room).slots) := by
      intro j
      induction j with
      | zero =>
        intro i hi hs
        show OwnGo p e below (s₁.setTop (mkF m 9 #[.val (.ref t1), .val (.ref t2), .val (.int (Int32.ofNat i))] [])) _
        refine own_back (fun t k => XS.iloadN X0.here hx rfl (hb hby leq_d9) rfl k) ?_
        show OwnGo p e below (s₁.setTop (mkF m 10 #[.val (.ref t1), .val (.ref t2), .val (.int (Int32.ofNat i))] [(.int (Int32.ofNat i))])) _
        refine own_back (fun t k => XS.aloadN X0.here hx rfl (hb hby leq_d10) rfl rfl k) ?_
        show OwnGo p e below (s₁.setTop (mkF m 11 #[.val (.ref t1), .val (.ref t2), .val (.int (Int32.ofNat i))] [(.ref t1), (.int (Int32.ofNat i))])) _
        obtain ⟨c115, A115, q115, S115, M115, H115, U115⟩ := id V1
        refine own_back (fun t k => X0.arraylength hx (own_hat e0 A115.1) (State.isArrayOf_alike hZ.alike A115.2.1) (g := (mkF m 11 #[.val (.ref t1), .val (.ref t2), .val (.int (Int32.ofNat i))] [(.ref t1), (.int (Int32.ofNat i))])) rfl rfl (hb hby leq_d11) t k) ?_
        rw [len_of S115 M115]
        show OwnGo p e below (s₁.setTop (mkF m 12 #[.val (.ref t1), .val (.ref t2), .val (.int (Int32.ofNat i))] [(.int (Int32.ofNat bs.length)), (.int (Int32.ofNat i))])) _
        refine own_back (fun t k => XS.icmpYes X0.here hx rfl (pc0 := 12) (pc' := 32) rfl (hb hby leq_d12) rfl (Jvm.Free.XT.ii_ge_t (by rw [show i = bs.length by omega]; exact Int32.lt_irrefl)) (by decide) (by decide) k) ?_
        show OwnGo p e below (s₁.setTop (mkF m 32 #[.val (.ref t1), .val (.ref t2), .val (.int (Int32.ofNat i))] [])) _
        refine own_back (fun t k => XS.iconst X0.here hx rfl (hb hby leq_d32) k) ?_
        show OwnGo p e below (s₁.setTop (mkF m 33 #[.val (.ref t1), .val (.ref t2), .val (.int (Int32.ofNat i))] [(.int (1 : Int32))])) _
        refine own_retN X0 hx Bd.notSynchronized (t := .boolean) (z := (1 : Int32)) Bd.returns (by simp) rfl (hb hby leq_d33) e0 (Nat.le_of_ble_eq_true rfl) (Nat.le_of_ble_eq_true rfl) ?_
        exact ⟨by rw [if_pos (own_exteq hl114 (fun q hq => hs q (by omega)))], N0, rfl⟩
      | succ j ih =>
        intro i hi hs
        show OwnGo p e below (s₁.setTop (mkF m 9 #[.val (.ref t1), .val (.ref t2), .val (.int (Int32.ofNat i))] [])) _
        refine own_back (fun t k => XS.iloadN X0.here hx rfl (hb hby leq_d9) rfl k) ?_
        show OwnGo p e below (s₁.setTop (mkF m 10 #[.val (.ref t1), .val (.ref t2), .val (.int (Int32.ofNat i))] [(.int (Int32.ofNat i))])) _
        refine own_back (fun t k => XS.aloadN X0.here hx rfl (hb hby leq_d10) rfl rfl k) ?_
        show OwnGo p e below (s₁.setTop (mkF m 11 #[.val (.ref t1), .val (.ref t2), .val (.int (Int32.ofNat i))] [(.ref t1), (.int (Int32.ofNat i))])) _
        obtain ⟨c116, A116, q116, S116, M116, H116, U116⟩ := id V1
        refine own_back (fun t k => X0.arraylength hx (own_hat e0 A116.1) (State.isArrayOf_alike hZ.alike A116.2.1) (g := (mkF m 11 #[.val (.ref t1), .val (.ref t2), .val (.int (Int32.ofNat i))] [(.ref t1), (.int (Int32.ofNat i))])) rfl rfl (hb hby leq_d11) t k) ?_
        rw [len_of S116 M116]
        show OwnGo p e below (s₁.setTop (mkF m 12 #[.val (.ref t1), .val (.ref t2), .val (.int (Int32.ofNat i))] [(.int (Int32.ofNat bs.length)), (.int (Int32.ofNat i))])) _
        refine own_back (fun t k => XS.icmpNo X0.here hx rfl (hb hby leq_d12) rfl (Jvm.Free.XT.ii_ge_f (own_lti (by omega) (by omega))) k) ?_
        show OwnGo p e below (s₁.setTop (mkF m 15 #[.val (.ref t1), .val (.ref t2), .val (.int (Int32.ofNat i))] [])) _
        refine own_back (fun t k => XS.aloadN X0.here hx rfl (hb hby leq_d15) rfl rfl k) ?_
        show OwnGo p e below (s₁.setTop (mkF m 16 #[.val (.ref t1), .val (.ref t2), .val (.int (Int32.ofNat i))] [(.ref t1)])) _
        refine own_back (fun t k => XS.iloadN X0.here hx rfl (hb hby leq_d16) rfl k) ?_
        show OwnGo p e below (s₁.setTop (mkF m 17 #[.val (.ref t1), .val (.ref t2), .val (.int (Int32.ofNat i))] [(.int (Int32.ofNat i)), (.ref t1)])) _
        obtain ⟨c117, A117, q117, S117, M117, H117, U117⟩ := id V1
        have ib118 : ¬ ((Int32.ofNat i) < 0 ∨ c117.slots.size ≤ ((Int32.ofNat i)).toNatClampNeg) := (inb_of S117 ⟨own_nn (by omega), own_lti (by omega) (by omega)⟩)
        refine own_back (fun t k => X0.baloadBytes hx (j := (Int32.ofNat i)) (v := (.int (bs.getD i 0))) (own_hat e0 A117.1) (State.isArrayOf_alike hZ.alike A117.2.1) A117.2.2 ib118 (H117.at ib118 (own_mapget bs i (by omega))) (g := (mkF m 17 #[.val (.ref t1), .val (.ref t2), .val (.int (Int32.ofNat i))] [(.int (Int32.ofNat i)), (.ref t1)])) rfl rfl (hb hby leq_d17) t k) ?_
        show OwnGo p e below (s₁.setTop (mkF m 18 #[.val (.ref t1), .val (.ref t2), .val (.int (Int32.ofNat i))] [(.int (bs.getD i 0))])) _
        refine own_back (fun t k => XS.aloadN X0.here hx rfl (hb hby leq_d18) rfl rfl k) ?_
        show OwnGo p e below (s₁.setTop (mkF m 19 #[.val (.ref t1), .val (.ref t2), .val (.int (Int32.ofNat i))] [(.ref t2), (.int (bs.getD i 0))])) _
        refine own_back (fun t k => XS.iloadN X0.here hx rfl (hb hby leq_d19) rfl k) ?_
        show OwnGo p e below (s₁.setTop (mkF m 20 #[.val (.ref t1), .val (.ref t2), .val (.int (Int32.ofNat i))] [(.int (Int32.ofNat i)), (.ref t2), (.int (bs.getD i 0))])) _
        obtain ⟨c119, A119, q119, S119, M119, H119, U119⟩ := id V2
        have ib120 : ¬ ((Int32.ofNat i) < 0 ∨ c119.slots.size ≤ ((Int32.ofNat i)).toNatClampNeg) := (inb_of S119 ⟨own_nn (by omega), own_lti (by omega) (by omega)⟩)
        refine own_back (fun t k => X0.baloadBytes hx (j := (Int32.ofNat i)) (v := (.int (ds.getD i 0))) (own_hat e0 A119.1) (State.isArrayOf_alike hZ.alike A119.2.1) A119.2.2 ib120 (H119.at ib120 (own_mapget ds i (by omega))) (g := (mkF m 20 #[.val (.ref t1), .val (.ref t2), .val (.int (Int32.ofNat i))] [(.int (Int32.ofNat i)), (.ref t2), (.int (bs.getD i 0))])) rfl rfl (hb hby leq_d20) t k) ?_
        show OwnGo p e below (s₁.setTop (mkF m 21 #[.val (.ref t1), .val (.ref t2), .val (.int (Int32.ofNat i))] [(.int (ds.getD i 0)), (.int (bs.getD i 0))])) _
        by_cases hc21_121 : (bs.getD i 0) = (ds.getD i 0)
        · refine own_back (fun t k => XS.icmpYes X0.here hx rfl (pc0 := 21) (pc' := 26) rfl (hb hby leq_d21) rfl (Jvm.Free.XT.ii_eq_t hc21_121) (by decide) (by decide) k) ?_
          show OwnGo p e below (s₁.setTop (mkF m 26 #[.val (.ref t1), .val (.ref t2), .val (.int (Int32.ofNat i))] [])) _
          refine own_back (fun t k => XS.iinc X0.here hx rfl (hb hby leq_d26) rfl (l' := #[.val (.ref t1), .val (.ref t2), .val (.int ((Int32.ofNat i) + (1 : Int32)))]) rfl k) ?_
          show OwnGo p e below (s₁.setTop (mkF m 29 #[.val (.ref t1), .val (.ref t2), .val (.int ((Int32.ofNat i) + (1 : Int32)))] [])) _
          refine own_back (fun t k => XS.goto X0.here hx rfl (pc0 := 29) (pc' := 9) rfl (hb hby leq_d29) (by decide) (by decide) k) ?_
          show OwnGo p e below (s₁.setTop (mkF m 9 #[.val (.ref t1), .val (.ref t2), .val (.int ((Int32.ofNat i) + (1 : Int32)))] [])) _
          rw [own_suci]
          refine ih (i + 1) (by omega) (fun q hq => ?_)
          rcases Nat.lt_succ_iff_lt_or_eq.mp hq with h | h
          · exact hs q h
          · rw [h]; exact hc21_121
        · refine own_back (fun t k => XS.icmpNo X0.here hx rfl (hb hby leq_d21) rfl (Jvm.Free.XT.ii_eq_f hc21_121) k) ?_
          show OwnGo p e below (s₁.setTop (mkF m 24 #[.val (.ref t1), .val (.ref t2), .val (.int (Int32.ofNat i))] [])) _
          refine own_back (fun t k => XS.iconst X0.here hx rfl (hb hby leq_d24) k) ?_
          show OwnGo p e below (s₁.setTop (mkF m 25 #[.val (.ref t1), .val (.ref t2), .val (.int (Int32.ofNat i))] [(.int (0 : Int32))])) _
          refine own_retN X0 hx Bd.notSynchronized (t := .boolean) (z := (0 : Int32)) Bd.returns (by simp) rfl (hb hby leq_d25) e0 (Nat.le_of_ble_eq_true rfl) (Nat.le_of_ble_eq_true rfl) ?_
          exact ⟨by rw [if_neg (fun q => hc21_121 (by rw [q]))], N0, rfl⟩
    exact loop bs.length 0 (by omega) (fun q hq => absurd hq (Nat.not_lt_zero _))
  · refine own_back (fun t k => XS.icmpYes X0.here hx rfl (pc0 := 4) (pc' := 34) rfl (hb hby leq_d4) rfl (Jvm.Free.XT.ii_ne_t hc4_113) (by decide) (by decide) k) ?_
    show OwnGo p e below (s₁.setTop (mkF m 34 #[.val (.ref t1), .val (.ref t2), .unset] [])) _
    refine own_back (fun t k => XS.iconst X0.here hx rfl (hb hby leq_d34) k) ?_
    show OwnGo p e below (s₁.setTop (mkF m 35 #[.val (.ref t1), .val (.ref t2), .unset] [(.int (0 : Int32))])) _
    refine own_retN X0 hx Bd.notSynchronized (t := .boolean) (z := (0 : Int32)) Bd.returns (by simp) rfl (hb hby leq_d35) e0 (Nat.le_of_ble_eq_true rfl) (Nat.le_of_ble_eq_true rfl) ?_
    exact ⟨by rw [if_neg (fun q => hc4_113 (by rw [q]))], N0, rfl⟩
theorem own_ite0 {P : Prop} [Decidable P] (h : (if P then (1 : Int32) else 0) = 0) : (if P then (1 : Int32) else 0) = 0 := h
theorem own_ite1 {P : Prop} [Decidable P] (h : ¬ (if P then (1 : Int32) else 0) = 0) : (if P then (1 : Int32) else 0) = 1 := by
  by_cases q : P
  · exact if_pos q
  · exact absurd (if_neg q) h
theorem own_arvget {Z : State} {h : Heap} {t : Addr} {k k' : ClassId} {ty ty' : FieldType} {z z' : Int32} {vs vs' : List Value} {d d' : Value} (A : Arv Z h t k ty z vs d) (B : Arv Z h t k' ty' z' vs' d') : z.toNatClampNeg = z'.toNatClampNeg ∧ ∀ i, i < z.toNatClampNeg → vs.getD i d = vs'.getD i d' := by
  obtain ⟨c, A1, -, A3, -, A5, -⟩ := A
  obtain ⟨c', B1, -, B3, -, B5, -⟩ := B
  cases A1.1.symm.trans B1.1
  refine ⟨A3.symm.trans B3, fun i hi => ?_⟩
  have q1 := A5 i (by omega)
  have q2 := B5 i (by omega)
  exact Option.some.inj (q1.symm.trans q2)
theorem own_sameb {Z : State} {h : Heap} {a : Addr} {bs ds : List Int32} (F : OwnStr Z h a bs) (G : OwnStr Z h a ds) : bs = ds := by
  obtain ⟨t, k, h1, h2, h3, h4, h5, h6⟩ := F
  obtain ⟨t', k', g1, g2, g3, g4, g5, g6⟩ := G
  have e : t = t' := Decidable.byContradiction fun q => Fld.ne h3 g3 (fun z => q (Value.ref.inj z)) rfl
  subst e
  obtain ⟨q1, q2⟩ := own_arvget h4 g4
  rw [own_clamp (by omega), own_clamp (by omega)] at q1
  rw [own_clamp (by omega)] at q2
  refine own_exteq q1 fun j hj => ?_
  have := q2 j hj
  have e1 := own_mapget bs j (by omega)
  have e2 := own_mapget ds j (by omega)
  rw [own_clamp (by omega)] at e1 e2
  rw [e1, e2] at this
  exact Value.int.inj this
theorem seq_d0 : decode jdk_42_method_66_code 0 = .ok (.aload_n 0, 1) := by decide +kernel
theorem seq_d1 : decode jdk_42_method_66_code 1 = .ok (.aload_n 1, 1) := by decide +kernel
theorem seq_d2 : decode jdk_42_method_66_code 2 = .ok (.if_acmp .ne 5, 3) := by decide +kernel
theorem seq_d5 : decode jdk_42_method_66_code 5 = .ok (.iconst 1, 1) := by decide +kernel
theorem seq_d6 : decode jdk_42_method_66_code 6 = .ok (.ireturn, 1) := by decide +kernel
theorem seq_d7 : decode jdk_42_method_66_code 7 = .ok (.aload_n 1, 1) := by decide +kernel
theorem seq_d8 : decode jdk_42_method_66_code 8 = .ok (.instanceof 10, 3) := by decide +kernel
theorem seq_d11 : decode jdk_42_method_66_code 11 = .ok (.ifCond .eq 43, 3) := by decide +kernel
theorem seq_d14 : decode jdk_42_method_66_code 14 = .ok (.aload_n 1, 1) := by decide +kernel
theorem seq_d15 : decode jdk_42_method_66_code 15 = .ok (.checkcast 10, 3) := by decide +kernel
theorem seq_d18 : decode jdk_42_method_66_code 18 = .ok (.astore_n 2, 1) := by decide +kernel
theorem seq_d19 : decode jdk_42_method_66_code 19 = .ok (.getstatic 38, 3) := by decide +kernel
theorem seq_d22 : decode jdk_42_method_66_code 22 = .ok (.ifCond .eq 14, 3) := by decide +kernel
theorem seq_d25 : decode jdk_42_method_66_code 25 = .ok (.aload_n 0, 1) := by decide +kernel
theorem seq_d26 : decode jdk_42_method_66_code 26 = .ok (.getfield 15, 3) := by decide +kernel
theorem seq_d29 : decode jdk_42_method_66_code 29 = .ok (.aload_n 2, 1) := by decide +kernel
theorem seq_d30 : decode jdk_42_method_66_code 30 = .ok (.getfield 15, 3) := by decide +kernel
theorem seq_d33 : decode jdk_42_method_66_code 33 = .ok (.if_icmp .ne 21, 3) := by decide +kernel
theorem seq_d36 : decode jdk_42_method_66_code 36 = .ok (.aload_n 0, 1) := by decide +kernel
theorem seq_d37 : decode jdk_42_method_66_code 37 = .ok (.getfield 9, 3) := by decide +kernel
theorem seq_d40 : decode jdk_42_method_66_code 40 = .ok (.aload_n 2, 1) := by decide +kernel
theorem seq_d41 : decode jdk_42_method_66_code 41 = .ok (.getfield 9, 3) := by decide +kernel
theorem seq_d44 : decode jdk_42_method_66_code 44 = .ok (.invokestatic 541, 3) := by decide +kernel
theorem seq_d47 : decode jdk_42_method_66_code 47 = .ok (.ifCond .eq 7, 3) := by decide +kernel
theorem seq_d50 : decode jdk_42_method_66_code 50 = .ok (.iconst 1, 1) := by decide +kernel
theorem seq_d51 : decode jdk_42_method_66_code 51 = .ok (.goto 4, 3) := by decide +kernel
theorem seq_d54 : decode jdk_42_method_66_code 54 = .ok (.iconst 0, 1) := by decide +kernel
theorem seq_d55 : decode jdk_42_method_66_code 55 = .ok (.ireturn, 1) := by decide +kernel
theorem seq_pn : plainName "java/lang/String" = true := by first | (simp [plainName, overriddenIn]; done) | decide +kernel
theorem seq_pd0 : parseMethodDescriptor "([B[B)Z" = some ⟨[(.array .byte), (.array .byte)], some .boolean⟩ := by decide +kernel
theorem seq_ef (m : MethodId) (x0 : Addr) (x1 : Addr) : entryFrame m #[(.ref x0), (.ref x1)] 3 = mkF m 0 #[.val (.ref x0), .val (.ref x1), .unset] [] := by first | (simp [entryFrame, mkF, argsToLocals, Value.category]; done) | rfl
set_option maxRecDepth 65536 in
set_option maxHeartbeats 40000000 in
theorem rm_seq (l : Launch) (Z : State) (a0 : Array Value) (hw : ∀ d ∈ tables_1, d.before a0 Z = true) (ws : List Jvm.Cond) (a1 : Addr) (a2 : Addr) (bs : List Int32) (ds : List Int32) (cz : Int32) (h0 : Heap) (n0 : Nat) (Z0 : n0 ≤ h0.size) (OL : Old Z n0 h0) (B1 : OwnStr Z h0 a1 bs) (B2 : OwnStr Z h0 a2 ds) (SC : Sta Z Z.heap "java/lang/String" "COMPACT_STRINGS" "Z" (.int cz)) (hcz : ¬ cz = 0) :
    MetFree l (⟨"java/lang/String", "equals", "(Ljava/lang/Object;)Z"⟩ : MethodName) (head1 (Jvm.Cond.code (⟨"java/lang/String", "equals", "(Ljava/lang/Object;)Z"⟩ : MethodName) jdk_42_method_66_code 3 (some .boolean) :: ws) ({ frames := 1, cells := 0, slots := 0, locals := 20 } : Room)) (fun a U => a = #[(.ref a1), (.ref a2)] ∧ Z.Warmed39 U.vm ∧ U.heap = h0) (fun _ _ _ _ _ => True) (fun _ U o U' => OwnEnd U (fun v h L => v = some (.int (if bs = ds then 1 else 0)) ∧ Fr n0 L ∧ h = h0) ({ frames := 1, cells := 0, slots := 0, locals := 20 } : Room).cells ({ frames := 1, cells := 0, slots := 0, locals := 20 } : Room).slots o U') := by
  refine MetFree.of_bodySF (plainFor_of_name seq_pn) hisR ?_
  intro p e s m args below meth c s₁ Bd hml0 hP hK
  obtain ⟨rfl, hZ, hh⟩ := hP
  have hx := Bd.exec
  have hby := Bd.bytes
  have hml : c.maxLocals = 3 := hml0
  have hown : s.vm.findClass "java/lang/String" = some m.cls := findClass_of_methodNamed Bd.named
  have hnm := (name_of_methodNamed Bd.named Bd.method).1
  have X0 : Stand p l e ({ frames := 1, cells := 0, slots := 0, locals := 20 } : Room) s m #[(.ref a1), (.ref a2)] below meth c s₁ [] 0 0 := Stand.of_body Bd
  have e0 : s₁.heap = h0 := by rw [← hh, Bd.state]; rfl
  have N0 := Fr.nil n0
  have KP0 := Keep.refl h0 []
  refine own_go (Q := (OwnEnd s (fun v h L => v = some (.int (if bs = ds then 1 else 0)) ∧ Fr n0 L ∧ h = h0) ({ frames := 1, cells := 0, slots := 0, locals := 20 } : Room).cells ({ frames := 1, cells := 0, slots := 0, locals := 20 } : Room).slots)) ?_
  refine own_back (fun t k => castTop (seq_ef m a1 a2) k) ?_
  show OwnGo p e below (s₁.setTop (mkF m 0 #[.val (.ref a1), .val (.ref a2), .unset] [])) _
  obtain ⟨t1, k1, E1, C1, F1, V1, m1, y1⟩ := B1
  obtain ⟨t2, k2, E2, C2, F2, V2, m2, y2⟩ := B2
  refine own_back (fun t k => XS.aloadN X0.here hx rfl (hb hby seq_d0) rfl rfl k) ?_
  show OwnGo p e below (s₁.setTop (mkF m 1 #[.val (.ref a1), .val (.ref a2), .unset] [(.ref a1)])) _
  refine own_back (fun t k => XS.aloadN X0.here hx rfl (hb hby seq_d1) rfl rfl k) ?_
  show OwnGo p e below (s₁.setTop (mkF m 2 #[.val (.ref a1), .val (.ref a2), .unset] [(.ref a2), (.ref a1)])) _
  by_cases ha2_101 : a1 = a2
  · refine own_back (fun t k => Jvm.RoadKit.acmp (g := (mkF m 2 #[.val (.ref a1), .val (.ref a2), .unset] [(.ref a2), (.ref a1)])) X0 hx rfl rfl rfl (pc0 := 2) (pc' := 5) (same := true) rfl (hb hby seq_d2) rfl (decide_eq_true (congrArg Value.ref ha2_101)) (by decide) (by decide) k) ?_
    show OwnGo p e below (s₁.setTop (mkF m 5 #[.val (.ref a1), .val (.ref a2), .unset] [])) _
    refine own_back (fun t k => XS.iconst X0.here hx rfl (hb hby seq_d5) k) ?_
    show OwnGo p e below (s₁.setTop (mkF m 6 #[.val (.ref a1), .val (.ref a2), .unset] [(.int (1 : Int32))])) _
    refine own_retN X0 hx Bd.notSynchronized (t := .boolean) (z := (1 : Int32)) Bd.returns (by simp) rfl (hb hby seq_d6) e0 (Nat.le_of_ble_eq_true rfl) (Nat.le_of_ble_eq_true rfl) ?_
    exact ⟨by rw [if_pos (own_sameb (by exact ⟨_, _, E1, C1, F1, V1, m1, y1⟩) (by rw [ha2_101]; exact ⟨_, _, E2, C2, F2, V2, m2, y2⟩))], N0, rfl⟩
  · refine own_back (fun t k => Jvm.RoadKit.acmp (g := (mkF m 2 #[.val (.ref a1), .val (.ref a2), .unset] [(.ref a2), (.ref a1)])) X0 hx rfl rfl rfl (pc0 := 2) (pc' := 7) (same := false) rfl (hb hby seq_d2) rfl (decide_eq_false fun q => ha2_101 (Value.ref.inj q)) (by decide) (by decide) k) ?_
    show OwnGo p e below (s₁.setTop (mkF m 7 #[.val (.ref a1), .val (.ref a2), .unset] [])) _
    refine own_back (fun t k => XS.aloadN X0.here hx rfl (hb hby seq_d7) rfl rfl k) ?_
    show OwnGo p e below (s₁.setTop (mkF m 8 #[.val (.ref a1), .val (.ref a2), .unset] [(.ref a2)])) _
    obtain ⟨T102, X102, e102, st102⟩ := instY X0 hx hZ hown (hw _ (List.mem_of_getElem? (i := 105) rfl)) e0 (Ins.self E2) (g := (mkF m 8 #[.val (.ref a1), .val (.ref a2), .unset] [(.ref a2)])) rfl rfl (hb hby seq_d8)
    refine own_back st102 ?_
    show OwnGo p e below (T102.setTop (mkF m 11 #[.val (.ref a1), .val (.ref a2), .unset] [(.int (1 : Int32))])) _
    refine own_back (fun t k => XS.ifNo X102.here hx rfl (hb hby seq_d11) rfl (Jvm.Free.XT.i0_eq_f (by decide)) k) ?_
    show OwnGo p e below (T102.setTop (mkF m 14 #[.val (.ref a1), .val (.ref a2), .unset] [])) _
    refine own_back (fun t k => XS.aloadN X102.here hx rfl (hb hby seq_d14) rfl rfl k) ?_
    show OwnGo p e below (T102.setTop (mkF m 15 #[.val (.ref a1), .val (.ref a2), .unset] [(.ref a2)])) _
    obtain ⟨T103, X103, e103, st103⟩ := castY X102 hx hZ hown (hw _ (List.mem_of_getElem? (i := 105) rfl)) e102 (Ins.self E2) (g := (mkF m 15 #[.val (.ref a1), .val (.ref a2), .unset] [(.ref a2)])) rfl rfl (hb hby seq_d15)
    refine own_back st103 ?_
    show OwnGo p e below (T103.setTop (mkF m 18 #[.val (.ref a1), .val (.ref a2), .unset] [(.ref a2)])) _
    refine own_back (fun t k => XS.astoreN X103.here hx rfl (hb hby seq_d18) rfl rfl (l' := #[.val (.ref a1), .val (.ref a2), .val (.ref a2)]) rfl k) ?_
    show OwnGo p e below (T103.setTop (mkF m 19 #[.val (.ref a1), .val (.ref a2), .val (.ref a2)] [])) _
    obtain ⟨T104, X104, e104, st104⟩ := getS2 X103 hx hZ hown (host := "") (Or.inl (hw _ (List.mem_of_getElem? (i := 59) rfl))) Via.refl e103 (SC.ext OL.2) (g := (mkF m 19 #[.val (.ref a1), .val (.ref a2), .val (.ref a2)] [])) rfl (hb hby seq_d19)
    refine own_back st104 ?_
    show OwnGo p e below (T104.setTop (mkF m 22 #[.val (.ref a1), .val (.ref a2), .val (.ref a2)] [(.int cz)])) _
    refine own_back (fun t k => XS.ifNo X104.here hx rfl (hb hby seq_d22) rfl (Jvm.Free.XT.i0_eq_f hcz) k) ?_
    show OwnGo p e below (T104.setTop (mkF m 25 #[.val (.ref a1), .val (.ref a2), .val (.ref a2)] [])) _
    refine own_back (fun t k => XS.aloadN X104.here hx rfl (hb hby seq_d25) rfl rfl k) ?_
    show OwnGo p e below (T104.setTop (mkF m 26 #[.val (.ref a1), .val (.ref a2), .val (.ref a2)] [(.ref a1)])) _
    obtain ⟨T105, X105, e105, st105⟩ := getF X104 hx hZ hown (host := "") (Or.inl (hw _ (List.mem_of_getElem? (i := 25) rfl))) Via.refl e104 C1 (g := (mkF m 26 #[.val (.ref a1), .val (.ref a2), .val (.ref a2)] [(.ref a1)])) rfl rfl (hb hby seq_d26)
    refine own_back st105 ?_
    show OwnGo p e below (T105.setTop (mkF m 29 #[.val (.ref a1), .val (.ref a2), .val (.ref a2)] [(.int (0 : Int32))])) _
    refine own_back (fun t k => XS.aloadN X105.here hx rfl (hb hby seq_d29) rfl rfl k) ?_
    show OwnGo p e below (T105.setTop (mkF m 30 #[.val (.ref a1), .val (.ref a2), .val (.ref a2)] [(.ref a2), (.int (0 : Int32))])) _
    obtain ⟨T106, X106, e106, st106⟩ := getF X105 hx hZ hown (host := "") (Or.inl (hw _ (List.mem_of_getElem? (i := 25) rfl))) Via.refl e105 C2 (g := (mkF m 30 #[.val (.ref a1), .val (.ref a2), .val (.ref a2)] [(.ref a2), (.int (0 : Int32))])) rfl rfl (hb hby seq_d30)
    refine own_back st106 ?_
    show OwnGo p e below (T106.setTop (mkF m 33 #[.val (.ref a1), .val (.ref a2), .val (.ref a2)] [(.int (0 : Int32)), (.int (0 : Int32))])) _
    refine own_back (fun t k => XS.icmpNo X106.here hx rfl (hb hby seq_d33) rfl (Jvm.Free.XT.ii_ne_f (by decide)) k) ?_
    show OwnGo p e below (T106.setTop (mkF m 36 #[.val (.ref a1), .val (.ref a2), .val (.ref a2)] [])) _
    refine own_back (fun t k => XS.aloadN X106.here hx rfl (hb hby seq_d36) rfl rfl k) ?_
    show OwnGo p e below (T106.setTop (mkF m 37 #[.val (.ref a1), .val (.ref a2), .val (.ref a2)] [(.ref a1)])) _
    obtain ⟨T107, X107, e107, st107⟩ := getF X106 hx hZ hown (host := "") (Or.inl (hw _ (List.mem_of_getElem? (i := 24) rfl))) Via.refl e106 F1 (g := (mkF m 37 #[.val (.ref a1), .val (.ref a2), .val (.ref a2)] [(.ref a1)])) rfl rfl (hb hby seq_d37)
    refine own_back st107 ?_
    show OwnGo p e below (T107.setTop (mkF m 40 #[.val (.ref a1), .val (.ref a2), .val (.ref a2)] [(.ref t1)])) _
    refine own_back (fun t k => XS.aloadN X107.here hx rfl (hb hby seq_d40) rfl rfl k) ?_
    show OwnGo p e below (T107.setTop (mkF m 41 #[.val (.ref a1), .val (.ref a2), .val (.ref a2)] [(.ref a2), (.ref t1)])) _
    obtain ⟨T108, X108, e108, st108⟩ := getF X107 hx hZ hown (host := "") (Or.inl (hw _ (List.mem_of_getElem? (i := 24) rfl))) Via.refl e107 F2 (g := (mkF m 41 #[.val (.ref a1), .val (.ref a2), .val (.ref a2)] [(.ref a2), (.ref t1)])) rfl rfl (hb hby seq_d41)
    refine own_back st108 ?_
    show OwnGo p e below (T108.setTop (mkF m 44 #[.val (.ref a1), .val (.ref a2), .val (.ref a2)] [(.ref t2), (.ref t1)])) _
    obtain ⟨_, _, ⟨T109, L109, k109, n109⟩, -, X109, ⟨Lc109, hQ109, l109, y109, z109⟩, st109⟩ := Jvm.LawKit.callS X108 hx (y := (⟨"java/lang/StringLatin1", "equals", "([B[B)Z"⟩ : MethodName)) hown (mvT hZ (hw _ (List.mem_of_getElem? (i := 106) rfl))) (mvT hZ (hw _ (List.mem_of_getElem? (i := 107) rfl))) (mvT hZ (hw _ (List.mem_of_getElem? (i := 108) rfl))) (mvT hZ (hw _ (List.mem_of_getElem? (i := 109) rfl))) (by decide) (own_backN (W := 0) (rm_leq l Z a0 hw [] t1 t2 k1 k2 bs ds h0 n0 Z0 V1 V2 m1 m2) hZ (hw _ (List.mem_of_getElem? (i := 109) rfl)) (hw _ (List.mem_of_getElem? (i := 108) rfl)) (by decide) (by decide)) (g := (mkF m 44 #[.val (.ref a1), .val (.ref a2), .val (.ref a2)] [(.ref t2), (.ref t1)])) rfl (by rw [hml]; rfl) (argsL := [(.ref t1), (.ref t2)]) (rest := []) (lenOf seq_pd0 rfl) rfl (by show 2 * 0 + _ ≤ _; exact Nat.le_of_eq rfl) (hb hby seq_d44) (fun _ _ => ⟨rfl, e108, Nat.le_of_ble_eq_true rfl, Nat.le_of_ble_eq_true rfl⟩)
    dsimp only [Pt.U, Pt.locs, Pt.cells, Pt.slots] at X109 l109 y109 z109 st109 hQ109
    subst l109 y109 z109
    obtain ⟨rfl, N109q, hh109⟩ := hQ109
    refine own_back st109 ?_
    have N109 := Fr.app N0 N109q
    show OwnGo p e below (T109.setTop (mkF m 47 #[.val (.ref a1), .val (.ref a2), .val (.ref a2)] [(.int (if bs = ds then (1 : Int32) else 0))])) _
    by_cases hc47_110 : (if bs = ds then (1 : Int32) else 0) = (0 : Int32)
    · refine own_back (fun t k => XS.ifYes X109.here hx rfl (pc0 := 47) (pc' := 54) rfl (hb hby seq_d47) rfl (Jvm.Free.XT.i0_eq_t hc47_110) (by decide) (by decide) k) ?_
      show OwnGo p e below (T109.setTop (mkF m 54 #[.val (.ref a1), .val (.ref a2), .val (.ref a2)] [])) _
      refine own_back (fun t k => XS.iconst X109.here hx rfl (hb hby seq_d54) k) ?_
      show OwnGo p e below (T109.setTop (mkF m 55 #[.val (.ref a1), .val (.ref a2), .val (.ref a2)] [(.int (0 : Int32))])) _
      refine own_retN X109 hx Bd.notSynchronized (t := .boolean) (z := (0 : Int32)) Bd.returns (by simp) rfl (hb hby seq_d55) hh109 (Nat.le_of_ble_eq_true rfl) (Nat.le_of_ble_eq_true rfl) ?_
      exact ⟨by rw [own_ite0 hc47_110], N109, rfl⟩
    · refine own_back (fun t k => XS.ifNo X109.here hx rfl (hb hby seq_d47) rfl (Jvm.Free.XT.i0_eq_f hc47_110) k) ?_
      show OwnGo p e below (T109.setTop (mkF m 50 #[.val (.ref a1), .val (.ref a2), .val (.ref a2)] [])) _
      refine own_back (fun t k => XS.iconst X109.here hx rfl (hb hby seq_d50) k) ?_
      show OwnGo p e below (T109.setTop (mkF m 51 #[.val (.ref a1), .val (.ref a2), .val (.ref a2)] [(.int (1 : Int32))])) _
      refine own_back (fun t k => XS.goto X109.here hx rfl (pc0 := 51) (pc' := 55) rfl (hb hby seq_d51) (by decide) (by decide) k) ?_
      show OwnGo p e below (T109.setTop (mkF m 55 #[.val (.ref a1), .val (.ref a2), .val (.ref a2)] [(.int (1 : Int32))])) _
      refine own_retN X109 hx Bd.notSynchronized (t := .boolean) (z := (1 : Int32)) Bd.returns (by simp) rfl (hb hby seq_d55) hh109 (Nat.le_of_ble_eq_true rfl) (Nat.le_of_ble_eq_true rfl) ?_
      exact ⟨by rw [own_ite1 hc47_110], N109, rfl⟩
theorem si4_d0 : decode jdk_42_method_149_code 0 = .ok (.aload_n 0, 1) := by decide +kernel
theorem si4_d1 : decode jdk_42_method_149_code 1 = .ok (.invokespecial 1, 3) := by decide +kernel
theorem si4_d4 : decode jdk_42_method_149_code 4 = .ok (.iload_n 3, 1) := by decide +kernel
theorem si4_d5 : decode jdk_42_method_149_code 5 = .ok (.ifCond .ne 22, 3) := by decide +kernel
theorem si4_d8 : decode jdk_42_method_149_code 8 = .ok (.aload_n 0, 1) := by decide +kernel
theorem si4_d9 : decode jdk_42_method_149_code 9 = .ok (.ldc 7, 2) := by decide +kernel
theorem si4_d11 : decode jdk_42_method_149_code 11 = .ok (.getfield 9, 3) := by decide +kernel
theorem si4_d14 : decode jdk_42_method_149_code 14 = .ok (.putfield 9, 3) := by decide +kernel
theorem si4_d17 : decode jdk_42_method_149_code 17 = .ok (.aload_n 0, 1) := by decide +kernel
theorem si4_d18 : decode jdk_42_method_149_code 18 = .ok (.ldc 7, 2) := by decide +kernel
theorem si4_d20 : decode jdk_42_method_149_code 20 = .ok (.getfield 15, 3) := by decide +kernel
theorem si4_d23 : decode jdk_42_method_149_code 23 = .ok (.putfield 15, 3) := by decide +kernel
theorem si4_d26 : decode jdk_42_method_149_code 26 = .ok (.return_, 1) := by decide +kernel
theorem si4_pn : plainName "java/lang/String" = true := by first | (simp [plainName, overriddenIn]; done) | decide +kernel
theorem si4_ef (m : MethodId) (x0 : Addr) (x1 : Addr) (x2 : Int32) (x3 : Int32) : entryFrame m #[(.ref x0), (.ref x1), (.int x3), (.int x3), .null] 6 = mkF m 0 #[.val (.ref x0), .val (.ref x1), .val (.int x3), .val (.int x3), .val .null, .unset] [] := by first | (simp [entryFrame, mkF, argsToLocals, Value.category]; done) | rfl
set_option maxRecDepth 65536 in
set_option maxHeartbeats 40000000 in
theorem rm_si4 (l : Launch) (Z : State) (a0 : Array Value) (hw : ∀ d ∈ tables_1, d.before a0 Z = true) (ws : List Jvm.Cond) (a1 : Addr) (b1 : Addr) (uc : Value) (uv : Value) (h0 : Heap) (n0 : Nat) (Z0 : n0 ≤ h0.size) (OL : Old Z n0 h0) (E1 : Exa Z h0 a1 "java/lang/String") (F1 : Fld Z h0 a1 "java/lang/String" "coder" "B" uc) (F2 : Fld Z h0 a1 "java/lang/String" "value" "[B" uv) (g1 : n0 ≤ a1) :
    MetFree l (⟨"java/lang/String", "<init>", "([CIILjava/lang/Void;)V"⟩ : MethodName) (head1 (Jvm.Cond.code (⟨"java/lang/String", "<init>", "([CIILjava/lang/Void;)V"⟩ : MethodName) jdk_42_method_149_code 6 none :: ws) ({ frames := 1, cells := 4, slots := 8, locals := 12 } : Room)) (fun a U => a = #[(.ref a1), (.ref b1), (.int (0 : Int32)), (.int (0 : Int32)), .null] ∧ Z.Warmed39 U.vm ∧ U.heap = h0 ∧ CHv Z own_EL U.vm h0 ∧ ∀ x ∈ ([a1] : List Addr), Safe Z own_EL U.vm h0 x) (fun _ _ _ _ _ => True) (fun _ U o U' => OwnEndW Z own_EL U (fun v h L => v = none ∧ Fr n0 L ∧ Keep h0 h [a1] ∧ OwnStr Z h a1 []) ({ frames := 1, cells := 4, slots := 8, locals := 12 } : Room).cells ({ frames := 1, cells := 4, slots := 8, locals := 12 } : Room).slots o U') := by
  refine MetFree.of_bodySF (plainFor_of_name si4_pn) hisR ?_
  intro p e s m args below meth c s₁ Bd hml0 hP hK
  obtain ⟨rfl, hZ, hh, hCH, hSL⟩ := hP
  have hx := Bd.exec
  have hby := Bd.bytes
  have hml : c.maxLocals = 6 := hml0
  have hown : s.vm.findClass "java/lang/String" = some m.cls := findClass_of_methodNamed Bd.named
  have hnm := (name_of_methodNamed Bd.named Bd.method).1
  have X0 : Stand p l e ({ frames := 1, cells := 4, slots := 8, locals := 12 } : Room) (s.setVm s.vm) m #[(.ref a1), (.ref b1), (.int (0 : Int32)), (.int (0 : Int32)), .null] below meth c s₁ [] 0 0 := Stand.of_body Bd
  have e0 : s₁.heap = h0 := by rw [← hh, Bd.state]; rfl
  have N0 := Fr.nil n0
  have KP0 := Keep.refl h0 [a1]
  have hown : (s.setVm s.vm).vm.findClass "java/lang/String" = some m.cls := hown
  have hZ : Z.Warmed39 (s.setVm s.vm).vm := hZ
  have hS0 : s.Since s.vm 0 := (State.WarmedH.refl s).since 0
  have hk0 : 0 ≤ h0.size := Nat.zero_le _
  have CR0 : CHr Z own_EL s.vm h0 s.vm h0 := CHr.refl hCH
  have hEL := own_EW hw
  have sf_a1 := hSL a1 (List.mem_of_getElem? (i := 0) rfl)
  refine own_go (Q := (OwnEndW Z own_EL s (fun v h L => v = none ∧ Fr n0 L ∧ Keep h0 h [a1] ∧ OwnStr Z h a1 []) ({ frames := 1, cells := 4, slots := 8, locals := 12 } : Room).cells ({ frames := 1, cells := 4, slots := 8, locals := 12 } : Room).slots)) ?_
  refine own_back (fun t k => castTop (si4_ef m a1 b1 (0 : Int32) (0 : Int32)) k) ?_
  show OwnGo p e below (s₁.setTop (mkF m 0 #[.val (.ref a1), .val (.ref b1), .val (.int (0 : Int32)), .val (.int (0 : Int32)), .val .null, .unset] [])) _
  refine own_back (fun t k => XS.aloadN X0.here hx rfl (hb hby si4_d0) rfl rfl k) ?_
  show OwnGo p e below (s₁.setTop (mkF m 1 #[.val (.ref a1), .val (.ref b1), .val (.int (0 : Int32)), .val (.int (0 : Int32)), .val .null, .unset] [(.ref a1)])) _
  obtain ⟨T122, X122, e122, st122⟩ := initO X0 hx hZ hown (hw _ (List.mem_of_getElem? (i := 15) rfl)) (hw _ (List.mem_of_getElem? (i := 16) rfl)) (hw _ (List.mem_of_getElem? (i := 17) rfl)) e0 (g := (mkF m 1 #[.val (.ref a1), .val (.ref b1), .val (.int (0 : Int32)), .val (.int (0 : Int32)), .val .null, .unset] [(.ref a1)])) rfl (by rw [hml]; rfl) rfl (hb hby si4_d1) (by decide) (W := 0) (by show 2 * 0 + _ ≤ _; exact Nat.le_of_eq rfl) (by decide)
  refine own_back st122 ?_
  show OwnGo p e below (T122.setTop (mkF m 4 #[.val (.ref a1), .val (.ref b1), .val (.int (0 : Int32)), .val (.int (0 : Int32)), .val .null, .unset] [])) _
  refine own_back (fun t k => XS.iloadN X122.here hx rfl (hb hby si4_d4) rfl k) ?_
  show OwnGo p e below (T122.setTop (mkF m 5 #[.val (.ref a1), .val (.ref b1), .val (.int (0 : Int32)), .val (.int (0 : Int32)), .val .null, .unset] [(.int (0 : Int32))])) _
  refine own_back (fun t k => XS.ifNo X122.here hx rfl (hb hby si4_d5) rfl (Jvm.Free.XT.i0_ne_f (by decide)) k) ?_
  show OwnGo p e below (T122.setTop (mkF m 8 #[.val (.ref a1), .val (.ref b1), .val (.int (0 : Int32)), .val (.int (0 : Int32)), .val .null, .unset] [])) _
  refine own_back (fun t k => XS.aloadN X122.here hx rfl (hb hby si4_d8) rfl rfl k) ?_
  show OwnGo p e below (T122.setTop (mkF m 9 #[.val (.ref a1), .val (.ref b1), .val (.int (0 : Int32)), .val (.int (0 : Int32)), .val .null, .unset] [(.ref a1)])) _
  obtain ⟨a123, T123, h123, k1123, t123, kb123, X123, e123, E123, hS123, hk123, hZ123, hown123, EX123, FC123, FV123, AV123, la123, lb123, CRl123, hLit123, sx123, st123⟩ := ldcCH X122 hx hZ hown (hw _ (List.mem_of_getElem? (i := 18) rfl)) (own_wS hw) e122 hS0 hk0 hEL (List.mem_of_getElem? (i := 2) rfl) CR0.1 (vs := []) (z := 0) ⟨by decide, by decide⟩ (by decide) (by decide) (g := (mkF m 9 #[.val (.ref a1), .val (.ref b1), .val (.int (0 : Int32)), .val (.int (0 : Int32)), .val .null, .unset] [(.ref a1)])) rfl (hb hby si4_d9) (n := 0) (Nat.le_of_ble_eq_true rfl) (by decide) (Nat.le_of_ble_eq_true rfl) (Nat.le_of_ble_eq_true rfl)
  have O124 := OL.ext E123
  have KP125 := KP0.ext E123
  have Zs126 := Nat.le_trans Z0 E123.1
  have CR127 := CR0.trans CRl123
  have f128 := (CRl123.safe E1.lt sf_a1)
  have f129 := E1.ext E123
  have f130 := F1.ext E123
  have f131 := F2.ext E123
  have XB123 : Exa Z h123 t123 "[B" := own_litB (s := s) hZ123 (hw _ (List.mem_of_getElem? (i := 18) rfl)) hown123 (List.mem_of_getElem? (i := 2) rfl) CRl123.1 hLit123 FV123
  refine own_back st123 ?_
  show OwnGo p e below (T123.setTop (mkF m 11 #[.val (.ref a1), .val (.ref b1), .val (.int (0 : Int32)), .val (.int (0 : Int32)), .val .null, .unset] [(.ref a123), (.ref a1)])) _
  obtain ⟨T132, X132, e132, st132⟩ := getF X123 hx hZ123 hown123 (host := "") (Or.inl (hw _ (List.mem_of_getElem? (i := 24) rfl))) Via.refl e123 FV123 (g := (mkF m 11 #[.val (.ref a1), .val (.ref b1), .val (.int (0 : Int32)), .val (.int (0 : Int32)), .val .null, .unset] [(.ref a123), (.ref a1)])) rfl rfl (hb hby si4_d11)
  refine own_back st132 ?_
  show OwnGo p e below (T132.setTop (mkF m 14 #[.val (.ref a1), .val (.ref b1), .val (.int (0 : Int32)), .val (.int (0 : Int32)), .val .null, .unset] [(.ref t123), (.ref a1)])) _
  obtain ⟨T133, h133, X133, e133, W133, st133⟩ := putF X132 hx hZ123 hown123 (host := "") (Or.inl (hw _ (List.mem_of_getElem? (i := 24) rfl))) Via.refl e132 f131 f129 (Or.inr ⟨(hw _ (List.mem_of_getElem? (i := 20) rfl)), rfl, hnm⟩) (hw _ (List.mem_of_getElem? (i := 5) rfl)) (ty := (.array .byte)) (by decide) rfl rfl (g := (mkF m 14 #[.val (.ref a1), .val (.ref b1), .val (.int (0 : Int32)), .val (.int (0 : Int32)), .val .null, .unset] [(.ref t123), (.ref a1)])) rfl rfl (hb hby si4_d14)
  have O134 := O124.wr W133 g1
  have KP135 := KP125.wr W133 (Or.inl (List.mem_of_getElem? (i := 0) rfl))
  have Zs136 := Nat.le_trans Zs126 (Keep.of_wr W133).1
  have CR137 := CR127.trans (CHr.wr W133 f128 CR127.1)
  have hk138 := Nat.le_trans hk123 (Keep.of_wr W133).1
  have f139 := (Safe.wr W133 f128 CR127.1 f128)
  have f140 := f129.wr W133
  have f141 := f130.other W133 (Or.inr (slot_ne (Or.inr (hw _ (List.mem_of_getElem? (i := 21) rfl))) (Or.inr (hw _ (List.mem_of_getElem? (i := 20) rfl))) (by decide) (t := .byte) (t' := (.array .byte)) (by decide) (by decide)))
  have f142 := EX123.wr W133
  have f143 := FC123.other W133 (Or.inl (Ne.symm (sx123 a1 f128).1))
  have f144 := FV123.other W133 (Or.inl (Ne.symm (sx123 a1 f128).1))
  have f145 := AV123.other W133 (Ne.symm (sx123 a1 f128).2)
  have f146 := XB123.wr W133
  have F147 := f131.same W133
  have N148 := Fr.snoc X133 N0 g1
  refine own_back st133 ?_
  show OwnGo p e below (T133.setTop (mkF m 17 #[.val (.ref a1), .val (.ref b1), .val (.int (0 : Int32)), .val (.int (0 : Int32)), .val .null, .unset] [])) _
  refine own_back (fun t k => XS.aloadN X133.here hx rfl (hb hby si4_d17) rfl rfl k) ?_
  show OwnGo p e below (T133.setTop (mkF m 18 #[.val (.ref a1), .val (.ref b1), .val (.int (0 : Int32)), .val (.int (0 : Int32)), .val .null, .unset] [(.ref a1)])) _
  obtain ⟨a149, T149, h149, k1149, t149, kb149, X149, e149, E149, hS149, hk149, hZ149, hown149, EX149, FC149, FV149, AV149, la149, lb149, CRl149, hLit149, sx149, st149⟩ := ldcCH X133 hx hZ123 hown123 (hw _ (List.mem_of_getElem? (i := 18) rfl)) (own_wS hw) e133 hS123 hk138 hEL (List.mem_of_getElem? (i := 2) rfl) CR137.1 (vs := []) (z := 0) ⟨by decide, by decide⟩ (by decide) (by decide) (g := (mkF m 18 #[.val (.ref a1), .val (.ref b1), .val (.int (0 : Int32)), .val (.int (0 : Int32)), .val .null, .unset] [(.ref a1)])) rfl (hb hby si4_d18) (n := 0) (Nat.le_of_ble_eq_true rfl) (by decide) (Nat.le_of_ble_eq_true rfl) (Nat.le_of_ble_eq_true rfl)
  have O150 := O134.ext E149
  have KP151 := KP135.ext E149
  have Zs152 := Nat.le_trans Zs136 E149.1
  have CR153 := CR137.trans CRl149
  have f154 := (CRl149.safe f140.lt f139)
  have f155 := f140.ext E149
  have f156 := f141.ext E149
  have f157 := f142.ext E149
  have f158 := f143.ext E149
  have f159 := f144.ext E149
  have f160 := f145.ext E149
  have f161 := f146.ext E149
  have f162 := F147.ext E149
  have XB149 : Exa Z h149 t149 "[B" := own_litB (s := s) hZ149 (hw _ (List.mem_of_getElem? (i := 18) rfl)) hown149 (List.mem_of_getElem? (i := 2) rfl) CRl149.1 hLit149 FV149
  refine own_back st149 ?_
  show OwnGo p e below (T149.setTop (mkF m 20 #[.val (.ref a1), .val (.ref b1), .val (.int (0 : Int32)), .val (.int (0 : Int32)), .val .null, .unset] [(.ref a149), (.ref a1)])) _
  obtain ⟨T163, X163, e163, st163⟩ := getF X149 hx hZ149 hown149 (host := "") (Or.inl (hw _ (List.mem_of_getElem? (i := 25) rfl))) Via.refl e149 FC149 (g := (mkF m 20 #[.val (.ref a1), .val (.ref b1), .val (.int (0 : Int32)), .val (.int (0 : Int32)), .val .null, .unset] [(.ref a149), (.ref a1)])) rfl rfl (hb hby si4_d20)
  refine own_back st163 ?_
  show OwnGo p e below (T163.setTop (mkF m 23 #[.val (.ref a1), .val (.ref b1), .val (.int (0 : Int32)), .val (.int (0 : Int32)), .val .null, .unset] [(.int (0 : Int32)), (.ref a1)])) _
  obtain ⟨T164, h164, X164, e164, W164, st164⟩ := putF X163 hx hZ149 hown149 (host := "") (Or.inl (hw _ (List.mem_of_getElem? (i := 25) rfl))) Via.refl e163 f156 f155 (Or.inr ⟨(hw _ (List.mem_of_getElem? (i := 21) rfl)), rfl, hnm⟩) (hw _ (List.mem_of_getElem? (i := 5) rfl)) (ty := .byte) (by decide) rfl rfl (g := (mkF m 23 #[.val (.ref a1), .val (.ref b1), .val (.int (0 : Int32)), .val (.int (0 : Int32)), .val .null, .unset] [(.int (0 : Int32)), (.ref a1)])) rfl rfl (hb hby si4_d23)
  have O165 := O150.wr W164 g1
  have KP166 := KP151.wr W164 (Or.inl (List.mem_of_getElem? (i := 0) rfl))
  have Zs167 := Nat.le_trans Zs152 (Keep.of_wr W164).1
  have CR168 := CR153.trans (CHr.wr W164 f154 CR153.1)
  have hk169 := Nat.le_trans hk149 (Keep.of_wr W164).1
  have f170 := (Safe.wr W164 f154 CR153.1 f154)
  have f171 := f155.wr W164
  have f172 := f157.wr W164
  have f173 := f158.other W164 (Or.inl (Ne.symm (sx123 a1 f128).1))
  have f174 := f159.other W164 (Or.inl (Ne.symm (sx123 a1 f128).1))
  have f175 := f160.other W164 (Ne.symm (sx123 a1 f128).2)
  have f176 := f161.wr W164
  have f177 := f162.other W164 (Or.inr (slot_ne (Or.inr (hw _ (List.mem_of_getElem? (i := 20) rfl))) (Or.inr (hw _ (List.mem_of_getElem? (i := 21) rfl))) (by decide) (t := (.array .byte)) (t' := .byte) (by decide) (by decide)))
  have f178 := EX149.wr W164
  have f179 := FC149.other W164 (Or.inl (Ne.symm (sx149 a1 f154).1))
  have f180 := FV149.other W164 (Or.inl (Ne.symm (sx149 a1 f154).1))
  have f181 := AV149.other W164 (Ne.symm (sx149 a1 f154).2)
  have f182 := XB149.wr W164
  have F183 := f156.same W164
  have N184 := Fr.snoc X164 N148 g1
  refine own_back st164 ?_
  show OwnGo p e below (T164.setTop (mkF m 26 #[.val (.ref a1), .val (.ref b1), .val (.int (0 : Int32)), .val (.int (0 : Int32)), .val .null, .unset] [])) _
  refine own_retVW X164 hx Bd.notSynchronized Bd.returns hS149 hk169 hZ149 hEL (hh ▸ CR168) (hb hby si4_d26) e164 (Nat.le_of_ble_eq_true rfl) (Nat.le_of_ble_eq_true rfl) ?_
  exact ⟨rfl, N184, KP166, t123, _, f171, F183, f177, f175, Nat.le_of_ble_eq_true rfl, f176⟩
theorem si1_d0 : decode jdk_42_method_3_code 0 = .ok (.aload_n 0, 1) := by decide +kernel
theorem si1_d1 : decode jdk_42_method_3_code 1 = .ok (.aload_n 1, 1) := by decide +kernel
theorem si1_d2 : decode jdk_42_method_3_code 2 = .ok (.iconst 0, 1) := by decide +kernel
theorem si1_d3 : decode jdk_42_method_3_code 3 = .ok (.aload_n 1, 1) := by decide +kernel
theorem si1_d4 : decode jdk_42_method_3_code 4 = .ok (.arraylength, 1) := by decide +kernel
theorem si1_d5 : decode jdk_42_method_3_code 5 = .ok (.aconst_null, 1) := by decide +kernel
theorem si1_d6 : decode jdk_42_method_3_code 6 = .ok (.invokespecial 27, 3) := by decide +kernel
theorem si1_d9 : decode jdk_42_method_3_code 9 = .ok (.return_, 1) := by decide +kernel
theorem si1_pn : plainName "java/lang/String" = true := by first | (simp [plainName, overriddenIn]; done) | decide +kernel
theorem si1_pd0 : parseMethodDescriptor "([CIILjava/lang/Void;)V" = some ⟨[(.array .char), .int, .int, (.object "java/lang/Void")], none⟩ := by decide +kernel
theorem si1_ef (m : MethodId) (x0 : Addr) (x1 : Addr) : entryFrame m #[(.ref x0), (.ref x1)] 2 = mkF m 0 #[.val (.ref x0), .val (.ref x1)] [] := by first | (simp [entryFrame, mkF, argsToLocals, Value.category]; done) | rfl
set_option maxRecDepth 65536 in
set_option maxHeartbeats 40000000 in
theorem rm_si1 (l : Launch) (Z : State) (a0 : Array Value) (hw : ∀ d ∈ tables_1, d.before a0 Z = true) (ws : List Jvm.Cond) (a1 : Addr) (b1 : Addr) (uc : Value) (uv : Value) (kc : ClassId) (h0 : Heap) (n0 : Nat) (Z0 : n0 ≤ h0.size) (OL : Old Z n0 h0) (E1 : Exa Z h0 a1 "java/lang/String") (F1 : Fld Z h0 a1 "java/lang/String" "coder" "B" uc) (F2 : Fld Z h0 a1 "java/lang/String" "value" "[B" uv) (g1 : n0 ≤ a1) (V1 : Arv Z h0 b1 kc .char (0 : Int32) [] (.int 0)) :
    MetFree l (⟨"java/lang/String", "<init>", "([C)V"⟩ : MethodName) (head1 (Jvm.Cond.code (⟨"java/lang/String", "<init>", "([C)V"⟩ : MethodName) jdk_42_method_3_code 2 none :: ws) ({ frames := 2, cells := 4, slots := 8, locals := 30 } : Room)) (fun a U => a = #[(.ref a1), (.ref b1)] ∧ Z.Warmed39 U.vm ∧ U.heap = h0 ∧ CHv Z own_EL U.vm h0 ∧ ∀ x ∈ ([a1] : List Addr), Safe Z own_EL U.vm h0 x) (fun _ _ _ _ _ => True) (fun _ U o U' => OwnEndW Z own_EL U (fun v h L => v = none ∧ Fr n0 L ∧ Keep h0 h [a1] ∧ OwnStr Z h a1 []) ({ frames := 2, cells := 4, slots := 8, locals := 30 } : Room).cells ({ frames := 2, cells := 4, slots := 8, locals := 30 } : Room).slots o U') := by
  refine MetFree.of_bodySF (plainFor_of_name si1_pn) hisR ?_
  intro p e s m args below meth c s₁ Bd hml0 hP hK
  obtain ⟨rfl, hZ, hh, hCH, hSL⟩ := hP
  have hx := Bd.exec
  have hby := Bd.bytes
  have hml : c.maxLocals = 2 := hml0
  have hown : s.vm.findClass "java/lang/String" = some m.cls := findClass_of_methodNamed Bd.named
  have hnm := (name_of_methodNamed Bd.named Bd.method).1
  have X0 : Stand p l e ({ frames := 2, cells := 4, slots := 8, locals := 30 } : Room) (s.setVm s.vm) m #[(.ref a1), (.ref b1)] below meth c s₁ [] 0 0 := Stand.of_body Bd
  have e0 : s₁.heap = h0 := by rw [← hh, Bd.state]; rfl
  have N0 := Fr.nil n0
  have KP0 := Keep.refl h0 [a1]
  have hown : (s.setVm s.vm).vm.findClass "java/lang/String" = some m.cls := hown
  have hZ : Z.Warmed39 (s.setVm s.vm).vm := hZ
  have hS0 : s.Since s.vm 0 := (State.WarmedH.refl s).since 0
  have hk0 : 0 ≤ h0.size := Nat.zero_le _
  have CR0 : CHr Z own_EL s.vm h0 s.vm h0 := CHr.refl hCH
  have hEL := own_EW hw
  have sf_a1 := hSL a1 (List.mem_of_getElem? (i := 0) rfl)
  refine own_go (Q := (OwnEndW Z own_EL s (fun v h L => v = none ∧ Fr n0 L ∧ Keep h0 h [a1] ∧ OwnStr Z h a1 []) ({ frames := 2, cells := 4, slots := 8, locals := 30 } : Room).cells ({ frames := 2, cells := 4, slots := 8, locals := 30 } : Room).slots)) ?_
  refine own_back (fun t k => castTop (si1_ef m a1 b1) k) ?_
  show OwnGo p e below (s₁.setTop (mkF m 0 #[.val (.ref a1), .val (.ref b1)] [])) _
  refine own_back (fun t k => XS.aloadN X0.here hx rfl (hb hby si1_d0) rfl rfl k) ?_
  show OwnGo p e below (s₁.setTop (mkF m 1 #[.val (.ref a1), .val (.ref b1)] [(.ref a1)])) _
  refine own_back (fun t k => XS.aloadN X0.here hx rfl (hb hby si1_d1) rfl rfl k) ?_
  show OwnGo p e below (s₁.setTop (mkF m 2 #[.val (.ref a1), .val (.ref b1)] [(.ref b1), (.ref a1)])) _
  refine own_back (fun t k => XS.iconst X0.here hx rfl (hb hby si1_d2) k) ?_
  show OwnGo p e below (s₁.setTop (mkF m 3 #[.val (.ref a1), .val (.ref b1)] [(.int (0 : Int32)), (.ref b1), (.ref a1)])) _
  refine own_back (fun t k => XS.aloadN X0.here hx rfl (hb hby si1_d3) rfl rfl k) ?_
  show OwnGo p e below (s₁.setTop (mkF m 4 #[.val (.ref a1), .val (.ref b1)] [(.ref b1), (.int (0 : Int32)), (.ref b1), (.ref a1)])) _
  obtain ⟨c185, A185, q185, S185, M185, H185, U185⟩ := id V1
  refine own_back (fun t k => X0.arraylength hx (own_hat e0 A185.1) (State.isArrayOf_alike hZ.alike A185.2.1) (g := (mkF m 4 #[.val (.ref a1), .val (.ref b1)] [(.ref b1), (.int (0 : Int32)), (.ref b1), (.ref a1)])) rfl rfl (hb hby si1_d4) t k) ?_
  rw [len_of S185 M185]
  show OwnGo p e below (s₁.setTop (mkF m 5 #[.val (.ref a1), .val (.ref b1)] [(.int (0 : Int32)), (.int (0 : Int32)), (.ref b1), (.ref a1)])) _
  refine own_back (fun t k => XS.aconstNull X0.here hx rfl (hb hby si1_d5) k) ?_
  show OwnGo p e below (s₁.setTop (mkF m 6 #[.val (.ref a1), .val (.ref b1)] [.null, (.int (0 : Int32)), (.int (0 : Int32)), (.ref b1), (.ref a1)])) _
  obtain ⟨_, _, ⟨T186, L186, k186, n186⟩, -, X186, hSn186, hgr186, ⟨Lc186, hQ186, l186, y186, z186, CRn186⟩, st186⟩ := X0.specialBackS hx (y := (⟨"java/lang/String", "<init>", "([CIILjava/lang/Void;)V"⟩ : MethodName)) rfl hown (mvT hZ (hw _ (List.mem_of_getElem? (i := 11) rfl))) (mvT hZ (hw _ (List.mem_of_getElem? (i := 12) rfl))) (mvT hZ (hw _ (List.mem_of_getElem? (i := 14) rfl))) (by decide) (own_backH (W := 0) (rm_si4 l Z a0 hw [] a1 b1 uc uv h0 n0 Z0 OL E1 F1 F2 g1) hZ (hw _ (List.mem_of_getElem? (i := 14) rfl)) (hw _ (List.mem_of_getElem? (i := 6) rfl)) (by decide) (by decide) hEL CR0.1 (sfS sf_a1 sf0) (allS E1.lt all0)) (g := (mkF m 6 #[.val (.ref a1), .val (.ref b1)] [.null, (.int (0 : Int32)), (.int (0 : Int32)), (.ref b1), (.ref a1)])) rfl (by rw [hml]; rfl) (Steps.refl _) (a := a1) (argsL := [(.ref b1), (.int (0 : Int32)), (.int (0 : Int32)), .null]) (rest := []) (lenOf si1_pd0 rfl) rfl (by show 2 * 0 + _ ≤ _; exact Nat.le_of_eq rfl) (hb hby si1_d6) (fun _ _ => ⟨rfl, e0, Nat.le_of_ble_eq_true rfl, Nat.le_of_ble_eq_true rfl⟩)
  dsimp only [Pt.U, Pt.locs, Pt.cells, Pt.slots] at X186 l186 y186 z186 st186 hQ186 hSn186 hgr186 CRn186
  subst l186 y186 z186
  obtain ⟨Xr186, hSr186, hZr186, hownr186⟩ := rebS hS0 (own_hle e0 hk0) X186 hSn186 hgr186 hZ hown
  obtain ⟨rfl, N186q, K186, B186⟩ := hQ186
  refine own_seq st186 ?_
  have N186 := Fr.app N0 N186q
  show OwnGo p e below (T186.setTop (mkF m 9 #[.val (.ref a1), .val (.ref b1)] [])) _
  refine own_retVW Xr186 hx Bd.notSynchronized Bd.returns hSr186 (Nat.le_refl _) hZr186 hEL (hh ▸ (CR0.trans CRn186)) (hb hby si1_d9) rfl (Nat.le_of_ble_eq_true rfl) (Nat.le_of_ble_eq_true rfl) ?_
  exact ⟨rfl, N186, K186, B186⟩
abbrev own_r (y : Int32) : Prop := ¬ y < 0 ∧ ¬ (255 : Int32) < y
theorem own_and255 {y : Int32} (h : own_r y) : y &&& (255 : Int32) = y := by
  obtain ⟨h1, h2⟩ := h
  rw [Int32.lt_iff_toInt_lt] at h1 h2
  have z : (0 : Int32).toInt = 0 := rfl
  have z2 : (255 : Int32).toInt = 255 := rfl
  have q := c_mask y 255 8 (by decide) (by decide)
  exact Int32.toInt_inj.mp (by rw [q]; omega)
theorem own_nar {y : Int32} (h : own_r y) : nar .char y = y := by
  have e := own_and255 h
  show y.toUInt32.toUInt16.toUInt32.toInt32 = y
  rw [← e, i2c_mask]
theorem own_narr {y : Int32} (h : own_r y) : own_r (nar .char y) := by rw [own_nar h]; exact h
abbrev own_L (nn : Nat) (c0 c1 : Int32) : List Int32 := ([own_b c0, own_b c1] : List Int32).take nn
theorem own_is2 {n : Nat} (h : n ≤ 2) (h0 : ¬ n = 0) (h1 : ¬ n = 1) : n = 2 := by omega
theorem mk_d0 : decode method_3_code 0 = .ok (.iload_n 0, 1) := by decide +kernel
theorem mk_d1 : decode method_3_code 1 = .ok (.ifCond .ne 14, 3) := by decide +kernel
theorem mk_d4 : decode method_3_code 4 = .ok (.new 22, 3) := by decide +kernel
theorem mk_d7 : decode method_3_code 7 = .ok (.dup, 1) := by decide +kernel
theorem mk_d8 : decode method_3_code 8 = .ok (.iconst 0, 1) := by decide +kernel
theorem mk_d9 : decode method_3_code 9 = .ok (.newarray .char, 2) := by decide +kernel
theorem mk_d11 : decode method_3_code 11 = .ok (.invokespecial 24, 3) := by decide +kernel
theorem mk_d14 : decode method_3_code 14 = .ok (.areturn, 1) := by decide +kernel
theorem mk_d15 : decode method_3_code 15 = .ok (.iload_n 0, 1) := by decide +kernel
theorem mk_d16 : decode method_3_code 16 = .ok (.iconst 1, 1) := by decide +kernel
theorem mk_d17 : decode method_3_code 17 = .ok (.if_icmp .ne 18, 3) := by decide +kernel
theorem mk_d20 : decode method_3_code 20 = .ok (.new 22, 3) := by decide +kernel
theorem mk_d23 : decode method_3_code 23 = .ok (.dup, 1) := by decide +kernel
theorem mk_d24 : decode method_3_code 24 = .ok (.iconst 1, 1) := by decide +kernel
theorem mk_d25 : decode method_3_code 25 = .ok (.newarray .char, 2) := by decide +kernel
theorem mk_d27 : decode method_3_code 27 = .ok (.dup, 1) := by decide +kernel
theorem mk_d28 : decode method_3_code 28 = .ok (.iconst 0, 1) := by decide +kernel
theorem mk_d29 : decode method_3_code 29 = .ok (.iload_n 1, 1) := by decide +kernel
theorem mk_d30 : decode method_3_code 30 = .ok (.castore, 1) := by decide +kernel
theorem mk_d31 : decode method_3_code 31 = .ok (.invokespecial 24, 3) := by decide +kernel
theorem mk_d34 : decode method_3_code 34 = .ok (.areturn, 1) := by decide +kernel
theorem mk_d35 : decode method_3_code 35 = .ok (.new 22, 3) := by decide +kernel
theorem mk_d38 : decode method_3_code 38 = .ok (.dup, 1) := by decide +kernel
theorem mk_d39 : decode method_3_code 39 = .ok (.iconst 2, 1) := by decide +kernel
theorem mk_d40 : decode method_3_code 40 = .ok (.newarray .char, 2) := by decide +kernel
theorem mk_d42 : decode method_3_code 42 = .ok (.dup, 1) := by decide +kernel
theorem mk_d43 : decode method_3_code 43 = .ok (.iconst 0, 1) := by decide +kernel
theorem mk_d44 : decode method_3_code 44 = .ok (.iload_n 1, 1) := by decide +kernel
theorem mk_d45 : decode method_3_code 45 = .ok (.castore, 1) := by decide +kernel
theorem mk_d46 : decode method_3_code 46 = .ok (.dup, 1) := by decide +kernel
theorem mk_d47 : decode method_3_code 47 = .ok (.iconst 1, 1) := by decide +kernel
theorem mk_d48 : decode method_3_code 48 = .ok (.iload_n 2, 1) := by decide +kernel
theorem mk_d49 : decode method_3_code 49 = .ok (.castore, 1) := by decide +kernel
theorem mk_d50 : decode method_3_code 50 = .ok (.invokespecial 24, 3) := by decide +kernel
theorem mk_d53 : decode method_3_code 53 = .ok (.areturn, 1) := by decide +kernel
theorem mk_pn : plainName "com/example/lease/lease/OwnerCountEqualsPinLaw" = true := by first | (simp [plainName, overriddenIn]; done) | decide +kernel
theorem mk_pd0 : parseMethodDescriptor "([C)V" = some ⟨[(.array .char)], none⟩ := by decide +kernel
theorem mk_ef (m : MethodId) (x0 : Int32) (x1 : Int32) (x2 : Int32) : entryFrame m #[(.int x0), (.int x1), (.int x2)] 3 = mkF m 0 #[.val (.int x0), .val (.int x1), .val (.int x2)] [] := by first | (simp [entryFrame, mkF, argsToLocals, Value.category]; done) | rfl
set_option maxRecDepth 65536 in
set_option maxHeartbeats 40000000 in
theorem rm_mk (l : Launch) (Z : State) (a0 : Array Value) (hw : ∀ d ∈ tables_1, d.before a0 Z = true) (ws : List Jvm.Cond) (nn : Nat) (c0 : Int32) (c1 : Int32) (cz : Int32) (h0 : Heap) (n0 : Nat) (Z0 : n0 ≤ h0.size) (OL : Old Z n0 h0) (hn : nn ≤ 2) (r0 : own_r c0) (r1 : own_r c1) (SC : Sta Z Z.heap "java/lang/String" "COMPACT_STRINGS" "Z" (.int cz)) (hcz : ¬ cz = 0) :
    MetFree l (⟨"com/example/lease/lease/OwnerCountEqualsPinLaw", "mk", "(ICC)Ljava/lang/String;"⟩ : MethodName) (head1 (Jvm.Cond.code (⟨"com/example/lease/lease/OwnerCountEqualsPinLaw", "mk", "(ICC)Ljava/lang/String;"⟩ : MethodName) method_3_code 3 (some (.object "java/lang/String")) :: ws) ({ frames := 4, cells := 6, slots := 12, locals := 66 } : Room)) (fun a U => a = #[(.int (Int32.ofNat nn)), (.int c0), (.int c1)] ∧ Z.Warmed39 U.vm ∧ U.heap = h0 ∧ CHv Z own_EL U.vm h0 ∧ ∀ x ∈ ([] : List Addr), Safe Z own_EL U.vm h0 x) (fun _ _ _ _ _ => True) (fun _ U o U' => OwnEndW Z own_EL U (fun v h L => ∃ a, v = some (.ref a) ∧ Fr n0 L ∧ Ext h0 h ∧ OwnStr Z h a (own_L nn c0 c1)) ({ frames := 4, cells := 6, slots := 12, locals := 66 } : Room).cells ({ frames := 4, cells := 6, slots := 12, locals := 66 } : Room).slots o U') := by
  refine MetFree.of_bodySF (plainFor_of_name mk_pn) hisR ?_
  intro p e s m args below meth c s₁ Bd hml0 hP hK
  obtain ⟨rfl, hZ, hh, hCH, hSL⟩ := hP
  have hx := Bd.exec
  have hby := Bd.bytes
  have hml : c.maxLocals = 3 := hml0
  have hown : s.vm.findClass "com/example/lease/lease/OwnerCountEqualsPinLaw" = some m.cls := findClass_of_methodNamed Bd.named
  have hnm := (name_of_methodNamed Bd.named Bd.method).1
  have X0 : Stand p l e ({ frames := 4, cells := 6, slots := 12, locals := 66 } : Room) (s.setVm s.vm) m #[(.int (Int32.ofNat nn)), (.int c0), (.int c1)] below meth c s₁ [] 0 0 := Stand.of_body Bd
  have e0 : s₁.heap = h0 := by rw [← hh, Bd.state]; rfl
  have N0 := Fr.nil n0
  have KP0 := Keep.refl h0 []
  have hown : (s.setVm s.vm).vm.findClass "com/example/lease/lease/OwnerCountEqualsPinLaw" = some m.cls := hown
  have hZ : Z.Warmed39 (s.setVm s.vm).vm := hZ
  have hS0 : s.Since s.vm 0 := (State.WarmedH.refl s).since 0
  have hk0 : 0 ≤ h0.size := Nat.zero_le _
  have CR0 : CHr Z own_EL s.vm h0 s.vm h0 := CHr.refl hCH
  have hEL := own_EW hw
  refine own_go (Q := (OwnEndW Z own_EL s (fun v h L => ∃ a, v = some (.ref a) ∧ Fr n0 L ∧ Ext h0 h ∧ OwnStr Z h a (own_L nn c0 c1)) ({ frames := 4, cells := 6, slots := 12, locals := 66 } : Room).cells ({ frames := 4, cells := 6, slots := 12, locals := 66 } : Room).slots)) ?_
  refine own_back (fun t k => castTop (mk_ef m (Int32.ofNat nn) c0 c1) k) ?_
  show OwnGo p e below (s₁.setTop (mkF m 0 #[.val (.int (Int32.ofNat nn)), .val (.int c0), .val (.int c1)] [])) _
  refine own_back (fun t k => XS.iloadN X0.here hx rfl (hb hby mk_d0) rfl k) ?_
  show OwnGo p e below (s₁.setTop (mkF m 1 #[.val (.int (Int32.ofNat nn)), .val (.int c0), .val (.int c1)] [(.int (Int32.ofNat nn))])) _
  by_cases hc1_187 : (Int32.ofNat nn) = (0 : Int32)
  · refine own_back (fun t k => XS.ifNo X0.here hx rfl (hb hby mk_d1) rfl (Jvm.Free.XT.i0_ne_f hc1_187) k) ?_
    show OwnGo p e below (s₁.setTop (mkF m 4 #[.val (.int (Int32.ofNat nn)), .val (.int c0), .val (.int c1)] [])) _
    obtain ⟨T188, h188, X188, e188, E188, A188, D188, -, st188⟩ := newO X0 hx hZ hown (hw _ (List.mem_of_getElem? (i := 4) rfl)) (hw _ (List.mem_of_getElem? (i := 5) rfl)) (hw _ (List.mem_of_getElem? (i := 6) rfl)) e0 (g := (mkF m 4 #[.val (.int (Int32.ofNat nn)), .val (.int c0), .val (.int c1)] [])) rfl (hb hby mk_d4) (Nat.le_of_ble_eq_true rfl) (Nat.le_of_ble_eq_true rfl)
    obtain ⟨b188, g188⟩ : ∃ z, z = h0.size := ⟨_, rfl⟩
    have ge189 : n0 ≤ b188 := Nat.le_trans Z0 (Nat.le_of_eq g188.symm)
    have sz190 : h0.size ≤ b188 := Nat.le_trans KP0.1 (Nat.le_of_eq g188.symm)
    rw [← g188] at A188 D188 st188
    have O191 := OL.ext E188
    have KP192 := KP0.ext E188
    have Zs193 := Nat.le_trans Z0 E188.1
    have CR194 := CR0.trans (CHr.ext E188 CR0.1)
    have hk195 := Nat.le_trans hk0 E188.1
    have F196 : Fld Z h188 b188 "java/lang/String" "value" "[B" .null := D188 (Or.inr (hw _ (List.mem_of_getElem? (i := 20) rfl))) (ty := (.array .byte)) (by decide)
    have F197 : Fld Z h188 b188 "java/lang/String" "coder" "B" (.int (0 : Int32)) := D188 (Or.inr (hw _ (List.mem_of_getElem? (i := 21) rfl))) (ty := .byte) (by decide)
    have sf198 := Safe.ext E188 CR0.1 (Safe.new (Nat.le_of_eq g188.symm))
    refine own_back st188 ?_
    show OwnGo p e below (T188.setTop (mkF m 7 #[.val (.int (Int32.ofNat nn)), .val (.int c0), .val (.int c1)] [(.ref b188)])) _
    refine own_back (fun t k => XS.dup X188.here hx rfl (hb hby mk_d7) rfl rfl k) ?_
    show OwnGo p e below (T188.setTop (mkF m 8 #[.val (.int (Int32.ofNat nn)), .val (.int c0), .val (.int c1)] [(.ref b188), (.ref b188)])) _
    refine own_back (fun t k => XS.iconst X188.here hx rfl (hb hby mk_d8) k) ?_
    show OwnGo p e below (T188.setTop (mkF m 9 #[.val (.int (Int32.ofNat nn)), .val (.int c0), .val (.int c1)] [(.int (0 : Int32)), (.ref b188), (.ref b188)])) _
    obtain ⟨T199, h199, k199, X199, e199, E199, A199, st199⟩ := newP X188 hx hZ (hw _ (List.mem_of_getElem? (i := 7) rfl)) e188 (g := (mkF m 9 #[.val (.int (Int32.ofNat nn)), .val (.int c0), .val (.int c1)] [(.int (0 : Int32)), (.ref b188), (.ref b188)])) rfl (hb hby mk_d9) rfl (by decide) (cap := 0) (by decide) (by decide) (Nat.le_of_ble_eq_true rfl) (Nat.le_of_ble_eq_true rfl)
    obtain ⟨b199, g199⟩ : ∃ z, z = h188.size := ⟨_, rfl⟩
    have ge200 : n0 ≤ b199 := Nat.le_trans Zs193 (Nat.le_of_eq g199.symm)
    have sz201 : h0.size ≤ b199 := Nat.le_trans KP192.1 (Nat.le_of_eq g199.symm)
    rw [← g199] at A199 st199
    have O202 := O191.ext E199
    have KP203 := KP192.ext E199
    have Zs204 := Nat.le_trans Zs193 E199.1
    have CR205 := CR194.trans (CHr.ext E199 CR194.1)
    have hk206 := Nat.le_trans hk195 E199.1
    have f207 := A188.ext E199
    have f208 := F196.ext E199
    have f209 := F197.ext E199
    have f210 := (Safe.ext E199 CR194.1 sf198)
    have V211 : Arv Z h199 b199 k199 .char (0 : Int32) [] (.int (0 : Int32)) := (Arv.new A199 (by decide)).pad (pad_rep [] (.int (0 : Int32)) 0)
    have sf212 := Safe.ext E199 CR194.1 (Safe.new (Nat.le_of_eq g199.symm))
    refine own_back st199 ?_
    show OwnGo p e below (T199.setTop (mkF m 11 #[.val (.int (Int32.ofNat nn)), .val (.int c0), .val (.int c1)] [(.ref b199), (.ref b188), (.ref b188)])) _
    obtain ⟨_, _, ⟨T213, L213, k213, n213⟩, -, X213, hSn213, hgr213, ⟨Lc213, hQ213, l213, y213, z213, CRn213⟩, st213⟩ := X199.specialBackS hx (y := (⟨"java/lang/String", "<init>", "([C)V"⟩ : MethodName)) rfl hown (mvT hZ (hw _ (List.mem_of_getElem? (i := 8) rfl))) (mvT hZ (hw _ (List.mem_of_getElem? (i := 9) rfl))) (mvT hZ (hw _ (List.mem_of_getElem? (i := 10) rfl))) (by decide) (own_backH (W := 1) (rm_si1 l Z a0 hw [] b188 b199 (.int 0) .null k199 h199 n0 Zs204 O202 f207 f209 f208 ge189 V211) hZ (hw _ (List.mem_of_getElem? (i := 10) rfl)) (hw _ (List.mem_of_getElem? (i := 6) rfl)) (by decide) (by decide) hEL CR205.1 (sfS f210 sf0) (allS f207.lt all0)) (g := (mkF m 11 #[.val (.int (Int32.ofNat nn)), .val (.int c0), .val (.int c1)] [(.ref b199), (.ref b188), (.ref b188)])) rfl (by rw [hml]; rfl) (Steps.refl _) (a := b188) (argsL := [(.ref b199)]) (rest := [(.ref b188)]) (lenOf mk_pd0 rfl) rfl (by show 2 * 0 + _ ≤ _; exact Nat.le_of_eq rfl) (hb hby mk_d11) (fun _ _ => ⟨rfl, e199, Nat.le_of_ble_eq_true rfl, Nat.le_of_ble_eq_true rfl⟩)
    dsimp only [Pt.U, Pt.locs, Pt.cells, Pt.slots] at X213 l213 y213 z213 st213 hQ213 hSn213 hgr213 CRn213
    subst l213 y213 z213
    obtain ⟨Xr213, hSr213, hZr213, hownr213⟩ := rebS hS0 (own_hle e199 hk206) X213 hSn213 hgr213 hZ hown
    obtain ⟨rfl, N213q, K213, B213⟩ := hQ213
    refine own_seq st213 ?_
    have N213 := Fr.app N0 N213q
    have O214 := O202.keep K213 (allS ge189 all0)
    have KP215 := KP203.trans K213 (allS (Or.inr sz190) all0)
    have Zs216 := Nat.le_trans Zs204 K213.1
    have CR217 := CR205.trans CRn213
    have f218 := f207.keep K213
    have f219 := (CRn213.safe f207.lt f210)
    have f220 := V211.keep K213 (ninS (Ne.symm (Nat.ne_of_lt (Nat.lt_of_lt_of_le A188.lt (Nat.le_of_eq g199.symm)))) nin0)
    have f221 := (CRn213.safe V211.lt sf212)
    show OwnGo p e below (T213.setTop (mkF m 14 #[.val (.int (Int32.ofNat nn)), .val (.int c0), .val (.int c1)] [(.ref b188)])) _
    refine own_retAW Xr213 hx Bd.notSynchronized Bd.returns rfl rfl hSr213 (Nat.le_refl _) hZr213 hEL (hh ▸ CR217) (hb hby mk_d14) rfl (Nat.le_of_ble_eq_true rfl) (Nat.le_of_ble_eq_true rfl) ?_
    obtain rfl : nn = 0 := own_eqi (n := 0) (by omega) (by omega) hc1_187
    exact ⟨b188, rfl, N213, own_ext KP215, B213⟩
  · refine own_back (fun t k => XS.ifYes X0.here hx rfl (pc0 := 1) (pc' := 15) rfl (hb hby mk_d1) rfl (Jvm.Free.XT.i0_ne_t hc1_187) (by decide) (by decide) k) ?_
    show OwnGo p e below (s₁.setTop (mkF m 15 #[.val (.int (Int32.ofNat nn)), .val (.int c0), .val (.int c1)] [])) _
    refine own_back (fun t k => XS.iloadN X0.here hx rfl (hb hby mk_d15) rfl k) ?_
    show OwnGo p e below (s₁.setTop (mkF m 16 #[.val (.int (Int32.ofNat nn)), .val (.int c0), .val (.int c1)] [(.int (Int32.ofNat nn))])) _
    refine own_back (fun t k => XS.iconst X0.here hx rfl (hb hby mk_d16) k) ?_
    show OwnGo p e below (s₁.setTop (mkF m 17 #[.val (.int (Int32.ofNat nn)), .val (.int c0), .val (.int c1)] [(.int (1 : Int32)), (.int (Int32.ofNat nn))])) _
    by_cases hc17_222 : (Int32.ofNat nn) = (1 : Int32)
    · refine own_back (fun t k => XS.icmpNo X0.here hx rfl (hb hby mk_d17) rfl (Jvm.Free.XT.ii_ne_f hc17_222) k) ?_
      show OwnGo p e below (s₁.setTop (mkF m 20 #[.val (.int (Int32.ofNat nn)), .val (.int c0), .val (.int c1)] [])) _
      obtain ⟨T223, h223, X223, e223, E223, A223, D223, -, st223⟩ := newO X0 hx hZ hown (hw _ (List.mem_of_getElem? (i := 4) rfl)) (hw _ (List.mem_of_getElem? (i := 5) rfl)) (hw _ (List.mem_of_getElem? (i := 6) rfl)) e0 (g := (mkF m 20 #[.val (.int (Int32.ofNat nn)), .val (.int c0), .val (.int c1)] [])) rfl (hb hby mk_d20) (Nat.le_of_ble_eq_true rfl) (Nat.le_of_ble_eq_true rfl)
      obtain ⟨b223, g223⟩ : ∃ z, z = h0.size := ⟨_, rfl⟩
      have ge224 : n0 ≤ b223 := Nat.le_trans Z0 (Nat.le_of_eq g223.symm)
      have sz225 : h0.size ≤ b223 := Nat.le_trans KP0.1 (Nat.le_of_eq g223.symm)
      rw [← g223] at A223 D223 st223
      have O226 := OL.ext E223
      have KP227 := KP0.ext E223
      have Zs228 := Nat.le_trans Z0 E223.1
      have CR229 := CR0.trans (CHr.ext E223 CR0.1)
      have hk230 := Nat.le_trans hk0 E223.1
      have F231 : Fld Z h223 b223 "java/lang/String" "value" "[B" .null := D223 (Or.inr (hw _ (List.mem_of_getElem? (i := 20) rfl))) (ty := (.array .byte)) (by decide)
      have F232 : Fld Z h223 b223 "java/lang/String" "coder" "B" (.int (0 : Int32)) := D223 (Or.inr (hw _ (List.mem_of_getElem? (i := 21) rfl))) (ty := .byte) (by decide)
      have sf233 := Safe.ext E223 CR0.1 (Safe.new (Nat.le_of_eq g223.symm))
      refine own_back st223 ?_
      show OwnGo p e below (T223.setTop (mkF m 23 #[.val (.int (Int32.ofNat nn)), .val (.int c0), .val (.int c1)] [(.ref b223)])) _
      refine own_back (fun t k => XS.dup X223.here hx rfl (hb hby mk_d23) rfl rfl k) ?_
      show OwnGo p e below (T223.setTop (mkF m 24 #[.val (.int (Int32.ofNat nn)), .val (.int c0), .val (.int c1)] [(.ref b223), (.ref b223)])) _
      refine own_back (fun t k => XS.iconst X223.here hx rfl (hb hby mk_d24) k) ?_
      show OwnGo p e below (T223.setTop (mkF m 25 #[.val (.int (Int32.ofNat nn)), .val (.int c0), .val (.int c1)] [(.int (1 : Int32)), (.ref b223), (.ref b223)])) _
      obtain ⟨T234, h234, k234, X234, e234, E234, A234, st234⟩ := newP X223 hx hZ (hw _ (List.mem_of_getElem? (i := 7) rfl)) e223 (g := (mkF m 25 #[.val (.int (Int32.ofNat nn)), .val (.int c0), .val (.int c1)] [(.int (1 : Int32)), (.ref b223), (.ref b223)])) rfl (hb hby mk_d25) rfl (by decide) (cap := 1) (by decide) (by decide) (Nat.le_of_ble_eq_true rfl) (Nat.le_of_ble_eq_true rfl)
      obtain ⟨b234, g234⟩ : ∃ z, z = h223.size := ⟨_, rfl⟩
      have ge235 : n0 ≤ b234 := Nat.le_trans Zs228 (Nat.le_of_eq g234.symm)
      have sz236 : h0.size ≤ b234 := Nat.le_trans KP227.1 (Nat.le_of_eq g234.symm)
      rw [← g234] at A234 st234
      have O237 := O226.ext E234
      have KP238 := KP227.ext E234
      have Zs239 := Nat.le_trans Zs228 E234.1
      have CR240 := CR229.trans (CHr.ext E234 CR229.1)
      have hk241 := Nat.le_trans hk230 E234.1
      have f242 := A223.ext E234
      have f243 := F231.ext E234
      have f244 := F232.ext E234
      have f245 := (Safe.ext E234 CR229.1 sf233)
      have V246 : Arv Z h234 b234 k234 .char (1 : Int32) [(.int (0 : Int32))] (.int (0 : Int32)) := (Arv.new A234 (by decide)).pad (pad_rep [] (.int (0 : Int32)) 1)
      have sf247 := Safe.ext E234 CR229.1 (Safe.new (Nat.le_of_eq g234.symm))
      refine own_back st234 ?_
      show OwnGo p e below (T234.setTop (mkF m 27 #[.val (.int (Int32.ofNat nn)), .val (.int c0), .val (.int c1)] [(.ref b234), (.ref b223), (.ref b223)])) _
      refine own_back (fun t k => XS.dup X234.here hx rfl (hb hby mk_d27) rfl rfl k) ?_
      show OwnGo p e below (T234.setTop (mkF m 28 #[.val (.int (Int32.ofNat nn)), .val (.int c0), .val (.int c1)] [(.ref b234), (.ref b234), (.ref b223), (.ref b223)])) _
      refine own_back (fun t k => XS.iconst X234.here hx rfl (hb hby mk_d28) k) ?_
      show OwnGo p e below (T234.setTop (mkF m 29 #[.val (.int (Int32.ofNat nn)), .val (.int c0), .val (.int c1)] [(.int (0 : Int32)), (.ref b234), (.ref b234), (.ref b223), (.ref b223)])) _
      refine own_back (fun t k => XS.iloadN X234.here hx rfl (hb hby mk_d29) rfl k) ?_
      show OwnGo p e below (T234.setTop (mkF m 30 #[.val (.int (Int32.ofNat nn)), .val (.int c0), .val (.int c1)] [(.int c0), (.int (0 : Int32)), (.ref b234), (.ref b234), (.ref b223), (.ref b223)])) _
      obtain ⟨c248, A248, q248, S248, M248, H248, U248⟩ := id V246
      obtain ⟨T249, h249, X249, e249, W249, st249⟩ := stC X234 hx hZ e234 A248 (j := (0 : Int32)) (inb_of S248 ⟨by decide, by decide⟩) (g := (mkF m 30 #[.val (.int (Int32.ofNat nn)), .val (.int c0), .val (.int c1)] [(.int c0), (.int (0 : Int32)), (.ref b234), (.ref b234), (.ref b223), (.ref b223)])) rfl rfl (hb hby mk_d30)
      have O250 := O237.wr W249 ge235
      have KP251 := KP238.wr W249 (Or.inr sz236)
      have Zs252 := Nat.le_trans Zs239 (Keep.of_wr W249).1
      have CR253 := CR240.trans (CHr.wr W249 sf247 CR240.1)
      have hk254 := Nat.le_trans hk241 (Keep.of_wr W249).1
      have f255 := f242.wr W249
      have f256 := f243.other W249 (Or.inl (Nat.ne_of_lt (Nat.lt_of_lt_of_le A223.lt (Nat.le_of_eq g234.symm))))
      have f257 := f244.other W249 (Or.inl (Nat.ne_of_lt (Nat.lt_of_lt_of_le A223.lt (Nat.le_of_eq g234.symm))))
      have f258 := (Safe.wr W249 sf247 CR240.1 f245)
      have f259 := (Safe.wr W249 sf247 CR240.1 sf247)
      have V260 : Arv Z h249 b234 k234 .char (1 : Int32) [(.int (nar .char c0))] (.int (0 : Int32)) := Arv.set A248 q248 S248 M248 H248 U248 (fits_nar_char _) W249 0 rfl (Nat.le_of_ble_eq_true rfl)
      have N261 := Fr.snoc X249 N0 ge235
      refine own_back st249 ?_
      show OwnGo p e below (T249.setTop (mkF m 31 #[.val (.int (Int32.ofNat nn)), .val (.int c0), .val (.int c1)] [(.ref b234), (.ref b223), (.ref b223)])) _
      obtain ⟨_, _, ⟨T262, L262, k262, n262⟩, -, X262, ⟨Lc262, hQ262, l262, y262, z262⟩, st262⟩ := X249.specialBack hx (y := (⟨"java/lang/String", "<init>", "([C)V"⟩ : MethodName)) rfl hown (mvT hZ (hw _ (List.mem_of_getElem? (i := 8) rfl))) (mvT hZ (hw _ (List.mem_of_getElem? (i := 9) rfl))) (mvT hZ (hw _ (List.mem_of_getElem? (i := 10) rfl))) (by decide) (StrChars.Road.backArv (W := 1) hZ (own_wV hw) (kI := 4) (hw _ (List.mem_of_getElem? (i := 5) rfl)) (cs := ([(nar .char c0)] : List Int32)) f255 f256 f257 V260 (SC.ext O250.2) hcz rfl (by simp) (by simp) (own_allS (own_narr r0).2 own_all0) (by decide) (by decide)) (g := (mkF m 31 #[.val (.int (Int32.ofNat nn)), .val (.int c0), .val (.int c1)] [(.ref b234), (.ref b223), (.ref b223)])) rfl (by rw [hml]; rfl) (Steps.refl _) (a := b223) (argsL := [(.ref b234)]) (rest := [(.ref b223)]) (lenOf mk_pd0 rfl) rfl (by show 2 * 0 + _ ≤ _; exact Nat.le_of_eq rfl) (hb hby mk_d31) (fun _ _ => ⟨rfl, e249, Nat.le_of_ble_eq_true rfl, Nat.le_of_ble_eq_true rfl⟩)
      dsimp only [Pt.U, Pt.locs, Pt.cells, Pt.slots] at X262 l262 y262 z262 st262 hQ262
      subst l262 y262 z262
      obtain ⟨rfl, LB262, K262, SZ262, EX262, FV262, C262, ⟨kb262, FB262, AV262⟩, -⟩ := hQ262
      have N262q : Fr n0 Lc262 := fun y hy => by rw [LB262 y hy]; exact ge224
      refine own_seq st262 ?_
      have N262 := Fr.app N261 N262q
      have O263 := O250.keep K262 (allS ge224 all0)
      have KP264 := KP251.trans K262 (allS (Or.inr sz225) all0)
      have Zs265 := Nat.le_trans Zs252 K262.1
      have CR266 := CR253.trans (CHr.keep K262 (sfS f258 sf0) CR253.1)
      have hk267 := Nat.le_trans hk254 K262.1
      have f268 := f255.keep K262
      have f269 := (Safe.keep K262 (sfS f258 sf0) CR253.1 f258)
      have f270 := (Safe.keep K262 (sfS f258 sf0) CR253.1 f259)
      have f271 := V260.keep K262 (ninS (Ne.symm (Nat.ne_of_lt (Nat.lt_of_lt_of_le A223.lt (Nat.le_of_eq g234.symm)))) nin0)
      show OwnGo p e below (T262.setTop (mkF m 34 #[.val (.int (Int32.ofNat nn)), .val (.int c0), .val (.int c1)] [(.ref b223)])) _
      refine own_retAW X262 hx Bd.notSynchronized Bd.returns rfl rfl hS0 hk267 hZ hEL (hh ▸ CR266) (hb hby mk_d34) rfl (Nat.le_of_ble_eq_true rfl) (Nat.le_of_ble_eq_true rfl) ?_
      obtain rfl : nn = 1 := own_eqi (n := 1) (by omega) (by omega) hc17_222
      exact ⟨b223, rfl, N262, own_ext KP264, (⟨_, kb262, EX262, C262, FV262, AV262, Nat.le_of_ble_eq_true rfl, own_exaB FB262 AV262⟩ : OwnStr Z T262.heap b223 [((nar .char c0)).toInt8.toInt32])⟩
    · refine own_back (fun t k => XS.icmpYes X0.here hx rfl (pc0 := 17) (pc' := 35) rfl (hb hby mk_d17) rfl (Jvm.Free.XT.ii_ne_t hc17_222) (by decide) (by decide) k) ?_
      show OwnGo p e below (s₁.setTop (mkF m 35 #[.val (.int (Int32.ofNat nn)), .val (.int c0), .val (.int c1)] [])) _
      obtain ⟨T272, h272, X272, e272, E272, A272, D272, -, st272⟩ := newO X0 hx hZ hown (hw _ (List.mem_of_getElem? (i := 4) rfl)) (hw _ (List.mem_of_getElem? (i := 5) rfl)) (hw _ (List.mem_of_getElem? (i := 6) rfl)) e0 (g := (mkF m 35 #[.val (.int (Int32.ofNat nn)), .val (.int c0), .val (.int c1)] [])) rfl (hb hby mk_d35) (Nat.le_of_ble_eq_true rfl) (Nat.le_of_ble_eq_true rfl)
      obtain ⟨b272, g272⟩ : ∃ z, z = h0.size := ⟨_, rfl⟩
      have ge273 : n0 ≤ b272 := Nat.le_trans Z0 (Nat.le_of_eq g272.symm)
      have sz274 : h0.size ≤ b272 := Nat.le_trans KP0.1 (Nat.le_of_eq g272.symm)
      rw [← g272] at A272 D272 st272
      have O275 := OL.ext E272
      have KP276 := KP0.ext E272
      have Zs277 := Nat.le_trans Z0 E272.1
      have CR278 := CR0.trans (CHr.ext E272 CR0.1)
      have hk279 := Nat.le_trans hk0 E272.1
      have F280 : Fld Z h272 b272 "java/lang/String" "value" "[B" .null := D272 (Or.inr (hw _ (List.mem_of_getElem? (i := 20) rfl))) (ty := (.array .byte)) (by decide)
      have F281 : Fld Z h272 b272 "java/lang/String" "coder" "B" (.int (0 : Int32)) := D272 (Or.inr (hw _ (List.mem_of_getElem? (i := 21) rfl))) (ty := .byte) (by decide)
      have sf282 := Safe.ext E272 CR0.1 (Safe.new (Nat.le_of_eq g272.symm))
      refine own_back st272 ?_
      show OwnGo p e below (T272.setTop (mkF m 38 #[.val (.int (Int32.ofNat nn)), .val (.int c0), .val (.int c1)] [(.ref b272)])) _
      refine own_back (fun t k => XS.dup X272.here hx rfl (hb hby mk_d38) rfl rfl k) ?_
      show OwnGo p e below (T272.setTop (mkF m 39 #[.val (.int (Int32.ofNat nn)), .val (.int c0), .val (.int c1)] [(.ref b272), (.ref b272)])) _
      refine own_back (fun t k => XS.iconst X272.here hx rfl (hb hby mk_d39) k) ?_
      show OwnGo p e below (T272.setTop (mkF m 40 #[.val (.int (Int32.ofNat nn)), .val (.int c0), .val (.int c1)] [(.int (2 : Int32)), (.ref b272), (.ref b272)])) _
      obtain ⟨T283, h283, k283, X283, e283, E283, A283, st283⟩ := newP X272 hx hZ (hw _ (List.mem_of_getElem? (i := 7) rfl)) e272 (g := (mkF m 40 #[.val (.int (Int32.ofNat nn)), .val (.int c0), .val (.int c1)] [(.int (2 : Int32)), (.ref b272), (.ref b272)])) rfl (hb hby mk_d40) rfl (by decide) (cap := 2) (by decide) (by decide) (Nat.le_of_ble_eq_true rfl) (Nat.le_of_ble_eq_true rfl)
      obtain ⟨b283, g283⟩ : ∃ z, z = h272.size := ⟨_, rfl⟩
      have ge284 : n0 ≤ b283 := Nat.le_trans Zs277 (Nat.le_of_eq g283.symm)
      have sz285 : h0.size ≤ b283 := Nat.le_trans KP276.1 (Nat.le_of_eq g283.symm)
      rw [← g283] at A283 st283
      have O286 := O275.ext E283
      have KP287 := KP276.ext E283
      have Zs288 := Nat.le_trans Zs277 E283.1
      have CR289 := CR278.trans (CHr.ext E283 CR278.1)
      have hk290 := Nat.le_trans hk279 E283.1
      have f291 := A272.ext E283
      have f292 := F280.ext E283
      have f293 := F281.ext E283
      have f294 := (Safe.ext E283 CR278.1 sf282)
      have V295 : Arv Z h283 b283 k283 .char (2 : Int32) [(.int (0 : Int32)), (.int (0 : Int32))] (.int (0 : Int32)) := (Arv.new A283 (by decide)).pad (pad_rep [] (.int (0 : Int32)) 2)
      have sf296 := Safe.ext E283 CR278.1 (Safe.new (Nat.le_of_eq g283.symm))
      refine own_back st283 ?_
      show OwnGo p e below (T283.setTop (mkF m 42 #[.val (.int (Int32.ofNat nn)), .val (.int c0), .val (.int c1)] [(.ref b283), (.ref b272), (.ref b272)])) _
      refine own_back (fun t k => XS.dup X283.here hx rfl (hb hby mk_d42) rfl rfl k) ?_
      show OwnGo p e below (T283.setTop (mkF m 43 #[.val (.int (Int32.ofNat nn)), .val (.int c0), .val (.int c1)] [(.ref b283), (.ref b283), (.ref b272), (.ref b272)])) _
      refine own_back (fun t k => XS.iconst X283.here hx rfl (hb hby mk_d43) k) ?_
      show OwnGo p e below (T283.setTop (mkF m 44 #[.val (.int (Int32.ofNat nn)), .val (.int c0), .val (.int c1)] [(.int (0 : Int32)), (.ref b283), (.ref b283), (.ref b272), (.ref b272)])) _
      refine own_back (fun t k => XS.iloadN X283.here hx rfl (hb hby mk_d44) rfl k) ?_
      show OwnGo p e below (T283.setTop (mkF m 45 #[.val (.int (Int32.ofNat nn)), .val (.int c0), .val (.int c1)] [(.int c0), (.int (0 : Int32)), (.ref b283), (.ref b283), (.ref b272), (.ref b272)])) _
      obtain ⟨c297, A297, q297, S297, M297, H297, U297⟩ := id V295
      obtain ⟨T298, h298, X298, e298, W298, st298⟩ := stC X283 hx hZ e283 A297 (j := (0 : Int32)) (inb_of S297 ⟨by decide, by decide⟩) (g := (mkF m 45 #[.val (.int (Int32.ofNat nn)), .val (.int c0), .val (.int c1)] [(.int c0), (.int (0 : Int32)), (.ref b283), (.ref b283), (.ref b272), (.ref b272)])) rfl rfl (hb hby mk_d45)
      have O299 := O286.wr W298 ge284
      have KP300 := KP287.wr W298 (Or.inr sz285)
      have Zs301 := Nat.le_trans Zs288 (Keep.of_wr W298).1
      have CR302 := CR289.trans (CHr.wr W298 sf296 CR289.1)
      have hk303 := Nat.le_trans hk290 (Keep.of_wr W298).1
      have f304 := f291.wr W298
      have f305 := f292.other W298 (Or.inl (Nat.ne_of_lt (Nat.lt_of_lt_of_le A272.lt (Nat.le_of_eq g283.symm))))
      have f306 := f293.other W298 (Or.inl (Nat.ne_of_lt (Nat.lt_of_lt_of_le A272.lt (Nat.le_of_eq g283.symm))))
      have f307 := (Safe.wr W298 sf296 CR289.1 f294)
      have f308 := (Safe.wr W298 sf296 CR289.1 sf296)
      have V309 : Arv Z h298 b283 k283 .char (2 : Int32) [(.int (nar .char c0)), (.int (0 : Int32))] (.int (0 : Int32)) := Arv.set A297 q297 S297 M297 H297 U297 (fits_nar_char _) W298 0 rfl (Nat.le_of_ble_eq_true rfl)
      have N310 := Fr.snoc X298 N0 ge284
      refine own_back st298 ?_
      show OwnGo p e below (T298.setTop (mkF m 46 #[.val (.int (Int32.ofNat nn)), .val (.int c0), .val (.int c1)] [(.ref b283), (.ref b272), (.ref b272)])) _
      refine own_back (fun t k => XS.dup X298.here hx rfl (hb hby mk_d46) rfl rfl k) ?_
      show OwnGo p e below (T298.setTop (mkF m 47 #[.val (.int (Int32.ofNat nn)), .val (.int c0), .val (.int c1)] [(.ref b283), (.ref b283), (.ref b272), (.ref b272)])) _
      refine own_back (fun t k => XS.iconst X298.here hx rfl (hb hby mk_d47) k) ?_
      show OwnGo p e below (T298.setTop (mkF m 48 #[.val (.int (Int32.ofNat nn)), .val (.int c0), .val (.int c1)] [(.int (1 : Int32)), (.ref b283), (.ref b283), (.ref b272), (.ref b272)])) _
      refine own_back (fun t k => XS.iloadN X298.here hx rfl (hb hby mk_d48) rfl k) ?_
      show OwnGo p e below (T298.setTop (mkF m 49 #[.val (.int (Int32.ofNat nn)), .val (.int c0), .val (.int c1)] [(.int c1), (.int (1 : Int32)), (.ref b283), (.ref b283), (.ref b272), (.ref b272)])) _
      obtain ⟨c311, A311, q311, S311, M311, H311, U311⟩ := id V309
      obtain ⟨T312, h312, X312, e312, W312, st312⟩ := stC X298 hx hZ e298 A311 (j := (1 : Int32)) (inb_of S311 ⟨by decide, by decide⟩) (g := (mkF m 49 #[.val (.int (Int32.ofNat nn)), .val (.int c0), .val (.int c1)] [(.int c1), (.int (1 : Int32)), (.ref b283), (.ref b283), (.ref b272), (.ref b272)])) rfl rfl (hb hby mk_d49)
      have O313 := O299.wr W312 ge284
      have KP314 := KP300.wr W312 (Or.inr sz285)
      have Zs315 := Nat.le_trans Zs301 (Keep.of_wr W312).1
      have CR316 := CR302.trans (CHr.wr W312 f308 CR302.1)
      have hk317 := Nat.le_trans hk303 (Keep.of_wr W312).1
      have f318 := f304.wr W312
      have f319 := f305.other W312 (Or.inl (Nat.ne_of_lt (Nat.lt_of_lt_of_le A272.lt (Nat.le_of_eq g283.symm))))
      have f320 := f306.other W312 (Or.inl (Nat.ne_of_lt (Nat.lt_of_lt_of_le A272.lt (Nat.le_of_eq g283.symm))))
      have f321 := (Safe.wr W312 f308 CR302.1 f307)
      have f322 := (Safe.wr W312 f308 CR302.1 f308)
      have V323 : Arv Z h312 b283 k283 .char (2 : Int32) [(.int (nar .char c0)), (.int (nar .char c1))] (.int (0 : Int32)) := Arv.set A311 q311 S311 M311 H311 U311 (fits_nar_char _) W312 1 rfl (Nat.le_of_ble_eq_true rfl)
      have N324 := Fr.snoc X312 N310 ge284
      refine own_back st312 ?_
      show OwnGo p e below (T312.setTop (mkF m 50 #[.val (.int (Int32.ofNat nn)), .val (.int c0), .val (.int c1)] [(.ref b283), (.ref b272), (.ref b272)])) _
      obtain ⟨_, _, ⟨T325, L325, k325, n325⟩, -, X325, ⟨Lc325, hQ325, l325, y325, z325⟩, st325⟩ := X312.specialBack hx (y := (⟨"java/lang/String", "<init>", "([C)V"⟩ : MethodName)) rfl hown (mvT hZ (hw _ (List.mem_of_getElem? (i := 8) rfl))) (mvT hZ (hw _ (List.mem_of_getElem? (i := 9) rfl))) (mvT hZ (hw _ (List.mem_of_getElem? (i := 10) rfl))) (by decide) (StrChars.Road.backArv (W := 1) hZ (own_wV hw) (kI := 4) (hw _ (List.mem_of_getElem? (i := 5) rfl)) (cs := ([(nar .char c0), (nar .char c1)] : List Int32)) f318 f319 f320 V323 (SC.ext O313.2) hcz rfl (by simp) (by simp) (own_allS (own_narr r0).2 (own_allS (own_narr r1).2 own_all0)) (by decide) (by decide)) (g := (mkF m 50 #[.val (.int (Int32.ofNat nn)), .val (.int c0), .val (.int c1)] [(.ref b283), (.ref b272), (.ref b272)])) rfl (by rw [hml]; rfl) (Steps.refl _) (a := b272) (argsL := [(.ref b283)]) (rest := [(.ref b272)]) (lenOf mk_pd0 rfl) rfl (by show 2 * 0 + _ ≤ _; exact Nat.le_of_eq rfl) (hb hby mk_d50) (fun _ _ => ⟨rfl, e312, Nat.le_of_ble_eq_true rfl, Nat.le_of_ble_eq_true rfl⟩)
      dsimp only [Pt.U, Pt.locs, Pt.cells, Pt.slots] at X325 l325 y325 z325 st325 hQ325
      subst l325 y325 z325
      obtain ⟨rfl, LB325, K325, SZ325, EX325, FV325, C325, ⟨kb325, FB325, AV325⟩, -⟩ := hQ325
      have N325q : Fr n0 Lc325 := fun y hy => by rw [LB325 y hy]; exact ge273
      refine own_seq st325 ?_
      have N325 := Fr.app N324 N325q
      have O326 := O313.keep K325 (allS ge273 all0)
      have KP327 := KP314.trans K325 (allS (Or.inr sz274) all0)
      have Zs328 := Nat.le_trans Zs315 K325.1
      have CR329 := CR316.trans (CHr.keep K325 (sfS f321 sf0) CR316.1)
      have hk330 := Nat.le_trans hk317 K325.1
      have f331 := f318.keep K325
      have f332 := (Safe.keep K325 (sfS f321 sf0) CR316.1 f321)
      have f333 := (Safe.keep K325 (sfS f321 sf0) CR316.1 f322)
      have f334 := V323.keep K325 (ninS (Ne.symm (Nat.ne_of_lt (Nat.lt_of_lt_of_le A272.lt (Nat.le_of_eq g283.symm)))) nin0)
      show OwnGo p e below (T325.setTop (mkF m 53 #[.val (.int (Int32.ofNat nn)), .val (.int c0), .val (.int c1)] [(.ref b272)])) _
      refine own_retAW X325 hx Bd.notSynchronized Bd.returns rfl rfl hS0 hk330 hZ hEL (hh ▸ CR329) (hb hby mk_d53) rfl (Nat.le_of_ble_eq_true rfl) (Nat.le_of_ble_eq_true rfl) ?_
      obtain rfl : nn = 2 := own_is2 hn (fun q => hc1_187 (by rw [q]; rfl)) (fun q => hc17_222 (by rw [q]; rfl))
      exact ⟨b272, rfl, N325, own_ext KP327, (⟨_, kb325, EX325, C325, FV325, AV325, Nat.le_of_ble_eq_true rfl, own_exaB FB325 AV325⟩ : OwnStr Z T325.heap b272 [((nar .char c0)).toInt8.toInt32, ((nar .char c1)).toInt8.toInt32])⟩
abbrev own_st (wP wL wC wF : Addr) (k : Nat) : Addr := if k = 0 then wP else if k = 1 then wL else if k = 2 then wC else wF
theorem st_d0 : decode method_2_code 0 = .ok (.iload_n 0, 1) := by decide +kernel
theorem st_d1 : decode method_2_code 1 = .ok (.ifCond .ne 7, 3) := by decide +kernel
theorem st_d4 : decode method_2_code 4 = .ok (.getstatic 7, 3) := by decide +kernel
theorem st_d7 : decode method_2_code 7 = .ok (.areturn, 1) := by decide +kernel
theorem st_d8 : decode method_2_code 8 = .ok (.iload_n 0, 1) := by decide +kernel
theorem st_d9 : decode method_2_code 9 = .ok (.iconst 1, 1) := by decide +kernel
theorem st_d10 : decode method_2_code 10 = .ok (.if_icmp .ne 7, 3) := by decide +kernel
theorem st_d13 : decode method_2_code 13 = .ok (.getstatic 13, 3) := by decide +kernel
theorem st_d16 : decode method_2_code 16 = .ok (.areturn, 1) := by decide +kernel
theorem st_d17 : decode method_2_code 17 = .ok (.iload_n 0, 1) := by decide +kernel
theorem st_d18 : decode method_2_code 18 = .ok (.iconst 2, 1) := by decide +kernel
theorem st_d19 : decode method_2_code 19 = .ok (.if_icmp .ne 7, 3) := by decide +kernel
theorem st_d22 : decode method_2_code 22 = .ok (.getstatic 16, 3) := by decide +kernel
theorem st_d25 : decode method_2_code 25 = .ok (.areturn, 1) := by decide +kernel
theorem st_d26 : decode method_2_code 26 = .ok (.getstatic 19, 3) := by decide +kernel
theorem st_d29 : decode method_2_code 29 = .ok (.areturn, 1) := by decide +kernel
theorem st_pn : plainName "com/example/lease/lease/OwnerCountEqualsPinLaw" = true := by first | (simp [plainName, overriddenIn]; done) | decide +kernel
theorem st_ef (m : MethodId) (x0 : Int32) : entryFrame m #[(.int x0)] 1 = mkF m 0 #[.val (.int x0)] [] := by first | (simp [entryFrame, mkF, argsToLocals, Value.category]; done) | rfl
set_option maxRecDepth 65536 in
set_option maxHeartbeats 40000000 in
theorem rm_st (l : Launch) (Z : State) (a0 : Array Value) (hw : ∀ d ∈ tables_1, d.before a0 Z = true) (ws : List Jvm.Cond) (kk : Nat) (wP : Addr) (wL : Addr) (wC : Addr) (wF : Addr) (h0 : Heap) (n0 : Nat) (Z0 : n0 ≤ h0.size) (OL : Old Z n0 h0) (hk3 : kk ≤ 3) (SP : Sta Z Z.heap "com/example/lease/lease/PartitionStatus" "PENDING" "Lcom/example/lease/lease/PartitionStatus;" (.ref wP)) (SL : Sta Z Z.heap "com/example/lease/lease/PartitionStatus" "LEASED" "Lcom/example/lease/lease/PartitionStatus;" (.ref wL)) (SC_ : Sta Z Z.heap "com/example/lease/lease/PartitionStatus" "COMPLETED" "Lcom/example/lease/lease/PartitionStatus;" (.ref wC)) (SF_ : Sta Z Z.heap "com/example/lease/lease/PartitionStatus" "FAILED" "Lcom/example/lease/lease/PartitionStatus;" (.ref wF)) :
    MetFree l (⟨"com/example/lease/lease/OwnerCountEqualsPinLaw", "st", "(I)Lcom/example/lease/lease/PartitionStatus;"⟩ : MethodName) (head1 (Jvm.Cond.code (⟨"com/example/lease/lease/OwnerCountEqualsPinLaw", "st", "(I)Lcom/example/lease/lease/PartitionStatus;"⟩ : MethodName) method_2_code 1 (some (.object "com/example/lease/lease/PartitionStatus")) :: ws) ({ frames := 0, cells := 0, slots := 0, locals := 0 } : Room)) (fun a U => a = #[(.int (Int32.ofNat kk))] ∧ Z.Warmed39 U.vm ∧ U.heap = h0) (fun _ _ _ _ _ => True) (fun _ U o U' => OwnEnd U (fun v h L => v = some (.ref (own_st wP wL wC wF kk)) ∧ Fr n0 L ∧ h = h0) ({ frames := 0, cells := 0, slots := 0, locals := 0 } : Room).cells ({ frames := 0, cells := 0, slots := 0, locals := 0 } : Room).slots o U') := by
  refine MetFree.of_bodySF (plainFor_of_name st_pn) hisR ?_
  intro p e s m args below meth c s₁ Bd hml0 hP hK
  obtain ⟨rfl, hZ, hh⟩ := hP
  have hx := Bd.exec
  have hby := Bd.bytes
  have hml : c.maxLocals = 1 := hml0
  have hown : s.vm.findClass "com/example/lease/lease/OwnerCountEqualsPinLaw" = some m.cls := findClass_of_methodNamed Bd.named
  have hnm := (name_of_methodNamed Bd.named Bd.method).1
  have X0 : Stand p l e ({ frames := 0, cells := 0, slots := 0, locals := 0 } : Room) s m #[(.int (Int32.ofNat kk))] below meth c s₁ [] 0 0 := Stand.of_body Bd
  have e0 : s₁.heap = h0 := by rw [← hh, Bd.state]; rfl
  have N0 := Fr.nil n0
  have KP0 := Keep.refl h0 []
  refine own_go (Q := (OwnEnd s (fun v h L => v = some (.ref (own_st wP wL wC wF kk)) ∧ Fr n0 L ∧ h = h0) ({ frames := 0, cells := 0, slots := 0, locals := 0 } : Room).cells ({ frames := 0, cells := 0, slots := 0, locals := 0 } : Room).slots)) ?_
  refine own_back (fun t k => castTop (st_ef m (Int32.ofNat kk)) k) ?_
  show OwnGo p e below (s₁.setTop (mkF m 0 #[.val (.int (Int32.ofNat kk))] [])) _
  refine own_back (fun t k => XS.iloadN X0.here hx rfl (hb hby st_d0) rfl k) ?_
  show OwnGo p e below (s₁.setTop (mkF m 1 #[.val (.int (Int32.ofNat kk))] [(.int (Int32.ofNat kk))])) _
  by_cases hc1_335 : (Int32.ofNat kk) = (0 : Int32)
  · refine own_back (fun t k => XS.ifNo X0.here hx rfl (hb hby st_d1) rfl (Jvm.Free.XT.i0_ne_f hc1_335) k) ?_
    show OwnGo p e below (s₁.setTop (mkF m 4 #[.val (.int (Int32.ofNat kk))] [])) _
    obtain ⟨T336, X336, e336, st336⟩ := getS2 X0 hx hZ hown (host := "") (Or.inl (hw _ (List.mem_of_getElem? (i := 32) rfl))) Via.refl e0 (SP.ext OL.2) (g := (mkF m 4 #[.val (.int (Int32.ofNat kk))] [])) rfl (hb hby st_d4)
    refine own_back st336 ?_
    show OwnGo p e below (T336.setTop (mkF m 7 #[.val (.int (Int32.ofNat kk))] [(.ref wP)])) _
    refine own_retA X336 hx Bd.notSynchronized Bd.returns rfl rfl (hb hby st_d7) e336 (Nat.le_of_ble_eq_true rfl) (Nat.le_of_ble_eq_true rfl) ?_
    exact ⟨congrArg (fun z => some (Value.ref z)) (by rw [own_st, if_pos (own_eqi (n := 0) (by omega) (by omega) hc1_335)]), N0, rfl⟩
  · refine own_back (fun t k => XS.ifYes X0.here hx rfl (pc0 := 1) (pc' := 8) rfl (hb hby st_d1) rfl (Jvm.Free.XT.i0_ne_t hc1_335) (by decide) (by decide) k) ?_
    show OwnGo p e below (s₁.setTop (mkF m 8 #[.val (.int (Int32.ofNat kk))] [])) _
    refine own_back (fun t k => XS.iloadN X0.here hx rfl (hb hby st_d8) rfl k) ?_
    show OwnGo p e below (s₁.setTop (mkF m 9 #[.val (.int (Int32.ofNat kk))] [(.int (Int32.ofNat kk))])) _
    refine own_back (fun t k => XS.iconst X0.here hx rfl (hb hby st_d9) k) ?_
    show OwnGo p e below (s₁.setTop (mkF m 10 #[.val (.int (Int32.ofNat kk))] [(.int (1 : Int32)), (.int (Int32.ofNat kk))])) _
    by_cases hc10_337 : (Int32.ofNat kk) = (1 : Int32)
    · refine own_back (fun t k => XS.icmpNo X0.here hx rfl (hb hby st_d10) rfl (Jvm.Free.XT.ii_ne_f hc10_337) k) ?_
      show OwnGo p e below (s₁.setTop (mkF m 13 #[.val (.int (Int32.ofNat kk))] [])) _
      obtain ⟨T338, X338, e338, st338⟩ := getS2 X0 hx hZ hown (host := "") (Or.inl (hw _ (List.mem_of_getElem? (i := 133) rfl))) Via.refl e0 (SL.ext OL.2) (g := (mkF m 13 #[.val (.int (Int32.ofNat kk))] [])) rfl (hb hby st_d13)
      refine own_back st338 ?_
      show OwnGo p e below (T338.setTop (mkF m 16 #[.val (.int (Int32.ofNat kk))] [(.ref wL)])) _
      refine own_retA X338 hx Bd.notSynchronized Bd.returns rfl rfl (hb hby st_d16) e338 (Nat.le_of_ble_eq_true rfl) (Nat.le_of_ble_eq_true rfl) ?_
      exact ⟨congrArg (fun z => some (Value.ref z)) (by rw [own_st, if_neg ((show ¬ kk = 0 from fun q => hc1_335 (by rw [q]; rfl))), if_pos (own_eqi (n := 1) (by omega) (by omega) hc10_337)]), N0, rfl⟩
    · refine own_back (fun t k => XS.icmpYes X0.here hx rfl (pc0 := 10) (pc' := 17) rfl (hb hby st_d10) rfl (Jvm.Free.XT.ii_ne_t hc10_337) (by decide) (by decide) k) ?_
      show OwnGo p e below (s₁.setTop (mkF m 17 #[.val (.int (Int32.ofNat kk))] [])) _
      refine own_back (fun t k => XS.iloadN X0.here hx rfl (hb hby st_d17) rfl k) ?_
      show OwnGo p e below (s₁.setTop (mkF m 18 #[.val (.int (Int32.ofNat kk))] [(.int (Int32.ofNat kk))])) _
      refine own_back (fun t k => XS.iconst X0.here hx rfl (hb hby st_d18) k) ?_
      show OwnGo p e below (s₁.setTop (mkF m 19 #[.val (.int (Int32.ofNat kk))] [(.int (2 : Int32)), (.int (Int32.ofNat kk))])) _
      by_cases hc19_339 : (Int32.ofNat kk) = (2 : Int32)
      · refine own_back (fun t k => XS.icmpNo X0.here hx rfl (hb hby st_d19) rfl (Jvm.Free.XT.ii_ne_f hc19_339) k) ?_
        show OwnGo p e below (s₁.setTop (mkF m 22 #[.val (.int (Int32.ofNat kk))] [])) _
        obtain ⟨T340, X340, e340, st340⟩ := getS2 X0 hx hZ hown (host := "") (Or.inl (hw _ (List.mem_of_getElem? (i := 120) rfl))) Via.refl e0 (SC_.ext OL.2) (g := (mkF m 22 #[.val (.int (Int32.ofNat kk))] [])) rfl (hb hby st_d22)
        refine own_back st340 ?_
        show OwnGo p e below (T340.setTop (mkF m 25 #[.val (.int (Int32.ofNat kk))] [(.ref wC)])) _
        refine own_retA X340 hx Bd.notSynchronized Bd.returns rfl rfl (hb hby st_d25) e340 (Nat.le_of_ble_eq_true rfl) (Nat.le_of_ble_eq_true rfl) ?_
        exact ⟨congrArg (fun z => some (Value.ref z)) (by rw [own_st, if_neg ((show ¬ kk = 0 from fun q => hc1_335 (by rw [q]; rfl))), if_neg ((show ¬ kk = 1 from fun q => hc10_337 (by rw [q]; rfl))), if_pos (own_eqi (n := 2) (by omega) (by omega) hc19_339)]), N0, rfl⟩
      · refine own_back (fun t k => XS.icmpYes X0.here hx rfl (pc0 := 19) (pc' := 26) rfl (hb hby st_d19) rfl (Jvm.Free.XT.ii_ne_t hc19_339) (by decide) (by decide) k) ?_
        show OwnGo p e below (s₁.setTop (mkF m 26 #[.val (.int (Int32.ofNat kk))] [])) _
        obtain ⟨T341, X341, e341, st341⟩ := getS2 X0 hx hZ hown (host := "") (Or.inl (hw _ (List.mem_of_getElem? (i := 129) rfl))) Via.refl e0 (SF_.ext OL.2) (g := (mkF m 26 #[.val (.int (Int32.ofNat kk))] [])) rfl (hb hby st_d26)
        refine own_back st341 ?_
        show OwnGo p e below (T341.setTop (mkF m 29 #[.val (.int (Int32.ofNat kk))] [(.ref wF)])) _
        refine own_retA X341 hx Bd.notSynchronized Bd.returns rfl rfl (hb hby st_d29) e341 (Nat.le_of_ble_eq_true rfl) (Nat.le_of_ble_eq_true rfl) ?_
        exact ⟨congrArg (fun z => some (Value.ref z)) (by rw [own_st, if_neg ((show ¬ kk = 0 from fun q => hc1_335 (by rw [q]; rfl))), if_neg ((show ¬ kk = 1 from fun q => hc10_337 (by rw [q]; rfl))), if_neg ((show ¬ kk = 2 from fun q => hc19_339 (by rw [q]; rfl)))]), N0, rfl⟩
theorem nbl1_d0 : decode jdk_52_method_3_code 0 = .ok (.iload_n 0, 1) := by decide +kernel
theorem nbl1_d1 : decode jdk_52_method_3_code 1 = .ok (.ifCond .ge 11, 3) := by decide +kernel
theorem nbl1_d12 : decode jdk_52_method_3_code 12 = .ok (.iload_n 0, 1) := by decide +kernel
theorem nbl1_d13 : decode jdk_52_method_3_code 13 = .ok (.ldc 20, 2) := by decide +kernel
theorem nbl1_d15 : decode jdk_52_method_3_code 15 = .ok (.if_icmp .lt 40, 3) := by decide +kernel
theorem nbl1_d55 : decode jdk_52_method_3_code 55 = .ok (.iload_n 0, 1) := by decide +kernel
theorem nbl1_d56 : decode jdk_52_method_3_code 56 = .ok (.iconst 1, 1) := by decide +kernel
theorem nbl1_d57 : decode jdk_52_method_3_code 57 = .ok (.ishl, 1) := by decide +kernel
theorem nbl1_d58 : decode jdk_52_method_3_code 58 = .ok (.ireturn, 1) := by decide +kernel
theorem nbl1_pn : plainName "java/lang/StringUTF16" = true := by first | (simp [plainName, overriddenIn]; done) | decide +kernel
theorem nbl1_ef (m : MethodId) (x0 : Int32) : entryFrame m #[(.int x0)] 1 = mkF m 0 #[.val (.int x0)] [] := by first | (simp [entryFrame, mkF, argsToLocals, Value.category]; done) | rfl
set_option maxRecDepth 65536 in
set_option maxHeartbeats 40000000 in
theorem rm_nbl1 (l : Launch) (Z : State) (a0 : Array Value) (hw : ∀ d ∈ tables_1, d.before a0 Z = true) (ws : List Jvm.Cond)  (h0 : Heap) (n0 : Nat) (Z0 : n0 ≤ h0.size)  :
    MetFree l (⟨"java/lang/StringUTF16", "newBytesLength", "(I)I"⟩ : MethodName) (head1 (Jvm.Cond.code (⟨"java/lang/StringUTF16", "newBytesLength", "(I)I"⟩ : MethodName) jdk_52_method_3_code 1 (some .int) :: ws) ({ frames := 0, cells := 0, slots := 0, locals := 0 } : Room)) (fun a U => a = #[(.int (1 : Int32))] ∧ Z.Warmed39 U.vm ∧ U.heap = h0) (fun _ _ _ _ _ => True) (fun _ U o U' => OwnEnd U (fun v h L => v = some (.int (2 : Int32)) ∧ Fr n0 L ∧ h = h0) ({ frames := 0, cells := 0, slots := 0, locals := 0 } : Room).cells ({ frames := 0, cells := 0, slots := 0, locals := 0 } : Room).slots o U') := by
  refine MetFree.of_bodySF (plainFor_of_name nbl1_pn) hisR ?_
  intro p e s m args below meth c s₁ Bd hml0 hP hK
  obtain ⟨rfl, hZ, hh⟩ := hP
  have hx := Bd.exec
  have hby := Bd.bytes
  have hml : c.maxLocals = 1 := hml0
  have hown : s.vm.findClass "java/lang/StringUTF16" = some m.cls := findClass_of_methodNamed Bd.named
  have hnm := (name_of_methodNamed Bd.named Bd.method).1
  have X0 : Stand p l e ({ frames := 0, cells := 0, slots := 0, locals := 0 } : Room) s m #[(.int (1 : Int32))] below meth c s₁ [] 0 0 := Stand.of_body Bd
  have e0 : s₁.heap = h0 := by rw [← hh, Bd.state]; rfl
  have N0 := Fr.nil n0
  have KP0 := Keep.refl h0 []
  refine own_go (Q := (OwnEnd s (fun v h L => v = some (.int (2 : Int32)) ∧ Fr n0 L ∧ h = h0) ({ frames := 0, cells := 0, slots := 0, locals := 0 } : Room).cells ({ frames := 0, cells := 0, slots := 0, locals := 0 } : Room).slots)) ?_
  refine own_back (fun t k => castTop (nbl1_ef m (1 : Int32)) k) ?_
  show OwnGo p e below (s₁.setTop (mkF m 0 #[.val (.int (1 : Int32))] [])) _
  refine own_back (fun t k => XS.iloadN X0.here hx rfl (hb hby nbl1_d0) rfl k) ?_
  show OwnGo p e below (s₁.setTop (mkF m 1 #[.val (.int (1 : Int32))] [(.int (1 : Int32))])) _
  refine own_back (fun t k => XS.ifYes X0.here hx rfl (pc0 := 1) (pc' := 12) rfl (hb hby nbl1_d1) rfl (Jvm.Free.XT.i0_ge_t (by decide)) (by decide) (by decide) k) ?_
  show OwnGo p e below (s₁.setTop (mkF m 12 #[.val (.int (1 : Int32))] [])) _
  refine own_back (fun t k => XS.iloadN X0.here hx rfl (hb hby nbl1_d12) rfl k) ?_
  show OwnGo p e below (s₁.setTop (mkF m 13 #[.val (.int (1 : Int32))] [(.int (1 : Int32))])) _
  refine own_back (fun t k => X0.ldcInt hx hown (mvT hZ (hw _ (List.mem_of_getElem? (i := 128) rfl))) (g := (mkF m 13 #[.val (.int (1 : Int32))] [(.int (1 : Int32))])) rfl (hb hby nbl1_d13) t k) ?_
  show OwnGo p e below (s₁.setTop (mkF m 15 #[.val (.int (1 : Int32))] [(.int (1073741823 : Int32)), (.int (1 : Int32))])) _
  refine own_back (fun t k => XS.icmpYes X0.here hx rfl (pc0 := 15) (pc' := 55) rfl (hb hby nbl1_d15) rfl (Jvm.Free.XT.ii_lt_t (by decide)) (by decide) (by decide) k) ?_
  show OwnGo p e below (s₁.setTop (mkF m 55 #[.val (.int (1 : Int32))] [])) _
  refine own_back (fun t k => XS.iloadN X0.here hx rfl (hb hby nbl1_d55) rfl k) ?_
  show OwnGo p e below (s₁.setTop (mkF m 56 #[.val (.int (1 : Int32))] [(.int (1 : Int32))])) _
  refine own_back (fun t k => XS.iconst X0.here hx rfl (hb hby nbl1_d56) k) ?_
  show OwnGo p e below (s₁.setTop (mkF m 57 #[.val (.int (1 : Int32))] [(.int (1 : Int32)), (.int (1 : Int32))])) _
  refine own_back (fun t k => XS.ishl X0.here hx rfl (hb hby nbl1_d57) rfl k) ?_
  show OwnGo p e below (s₁.setTop (mkF m 58 #[.val (.int (1 : Int32))] [(.int ((1 : Int32) <<< ((1 : Int32) &&& 31)))])) _
  refine own_retI X0 hx Bd.notSynchronized Bd.returns (hb hby nbl1_d58) e0 (Nat.le_of_ble_eq_true rfl) (Nat.le_of_ble_eq_true rfl) ?_
  exact ⟨rfl, N0, rfl⟩
theorem nbf1_d0 : decode jdk_52_method_2_code 0 = .ok (.iload_n 0, 1) := by decide +kernel
theorem nbf1_d1 : decode jdk_52_method_2_code 1 = .ok (.invokestatic 11, 3) := by decide +kernel
theorem nbf1_d4 : decode jdk_52_method_2_code 4 = .ok (.newarray .byte, 2) := by decide +kernel
theorem nbf1_d6 : decode jdk_52_method_2_code 6 = .ok (.areturn, 1) := by decide +kernel
theorem nbf1_pn : plainName "java/lang/StringUTF16" = true := by first | (simp [plainName, overriddenIn]; done) | decide +kernel
theorem nbf1_pd0 : parseMethodDescriptor "(I)I" = some ⟨[.int], some .int⟩ := by decide +kernel
theorem nbf1_ef (m : MethodId) (x0 : Int32) : entryFrame m #[(.int x0)] 1 = mkF m 0 #[.val (.int x0)] [] := by first | (simp [entryFrame, mkF, argsToLocals, Value.category]; done) | rfl
set_option maxRecDepth 65536 in
set_option maxHeartbeats 40000000 in
theorem rm_nbf1 (l : Launch) (Z : State) (a0 : Array Value) (hw : ∀ d ∈ tables_1, d.before a0 Z = true) (ws : List Jvm.Cond)  (h0 : Heap) (n0 : Nat) (Z0 : n0 ≤ h0.size) (OL : Old Z n0 h0) :
    MetFree l (⟨"java/lang/StringUTF16", "newBytesFor", "(I)[B"⟩ : MethodName) (head1 (Jvm.Cond.code (⟨"java/lang/StringUTF16", "newBytesFor", "(I)[B"⟩ : MethodName) jdk_52_method_2_code 1 (some (.array .byte)) :: ws) ({ frames := 1, cells := 1, slots := 4, locals := 14 } : Room)) (fun a U => a = #[(.int (1 : Int32))] ∧ Z.Warmed39 U.vm ∧ U.heap = h0) (fun _ _ _ _ _ => True) (fun _ U o U' => OwnEnd U (fun v h L => ∃ b k, v = some (.ref b) ∧ Fr n0 L ∧ Ext h0 h ∧ n0 ≤ b ∧ h0.size ≤ b ∧ Arv Z h b k .byte (2 : Int32) [.int 0, .int 0] (.int 0)) ({ frames := 1, cells := 1, slots := 4, locals := 14 } : Room).cells ({ frames := 1, cells := 1, slots := 4, locals := 14 } : Room).slots o U') := by
  refine MetFree.of_bodySF (plainFor_of_name nbf1_pn) hisR ?_
  intro p e s m args below meth c s₁ Bd hml0 hP hK
  obtain ⟨rfl, hZ, hh⟩ := hP
  have hx := Bd.exec
  have hby := Bd.bytes
  have hml : c.maxLocals = 1 := hml0
  have hown : s.vm.findClass "java/lang/StringUTF16" = some m.cls := findClass_of_methodNamed Bd.named
  have hnm := (name_of_methodNamed Bd.named Bd.method).1
  have X0 : Stand p l e ({ frames := 1, cells := 1, slots := 4, locals := 14 } : Room) s m #[(.int (1 : Int32))] below meth c s₁ [] 0 0 := Stand.of_body Bd
  have e0 : s₁.heap = h0 := by rw [← hh, Bd.state]; rfl
  have N0 := Fr.nil n0
  have KP0 := Keep.refl h0 []
  refine own_go (Q := (OwnEnd s (fun v h L => ∃ b k, v = some (.ref b) ∧ Fr n0 L ∧ Ext h0 h ∧ n0 ≤ b ∧ h0.size ≤ b ∧ Arv Z h b k .byte (2 : Int32) [.int 0, .int 0] (.int 0)) ({ frames := 1, cells := 1, slots := 4, locals := 14 } : Room).cells ({ frames := 1, cells := 1, slots := 4, locals := 14 } : Room).slots)) ?_
  refine own_back (fun t k => castTop (nbf1_ef m (1 : Int32)) k) ?_
  show OwnGo p e below (s₁.setTop (mkF m 0 #[.val (.int (1 : Int32))] [])) _
  refine own_back (fun t k => XS.iloadN X0.here hx rfl (hb hby nbf1_d0) rfl k) ?_
  show OwnGo p e below (s₁.setTop (mkF m 1 #[.val (.int (1 : Int32))] [(.int (1 : Int32))])) _
  obtain ⟨_, _, ⟨T342, L342, k342, n342⟩, -, X342, ⟨Lc342, hQ342, l342, y342, z342⟩, st342⟩ := Jvm.LawKit.callS X0 hx (y := (⟨"java/lang/StringUTF16", "newBytesLength", "(I)I"⟩ : MethodName)) hown (mvT hZ (hw _ (List.mem_of_getElem? (i := 125) rfl))) (mvT hZ (hw _ (List.mem_of_getElem? (i := 126) rfl))) (mvT hZ (hw _ (List.mem_of_getElem? (i := 112) rfl))) (mvT hZ (hw _ (List.mem_of_getElem? (i := 127) rfl))) (by decide) (own_backN (W := 0) (rm_nbl1 l Z a0 hw [] h0 n0 Z0) hZ (hw _ (List.mem_of_getElem? (i := 127) rfl)) (hw _ (List.mem_of_getElem? (i := 112) rfl)) (by decide) (by decide)) (g := (mkF m 1 #[.val (.int (1 : Int32))] [(.int (1 : Int32))])) rfl (by rw [hml]; rfl) (argsL := [(.int (1 : Int32))]) (rest := []) (lenOf nbf1_pd0 rfl) rfl (by show 2 * 0 + _ ≤ _; exact Nat.le_of_eq rfl) (hb hby nbf1_d1) (fun _ _ => ⟨rfl, e0, Nat.le_of_ble_eq_true rfl, Nat.le_of_ble_eq_true rfl⟩)
  dsimp only [Pt.U, Pt.locs, Pt.cells, Pt.slots] at X342 l342 y342 z342 st342 hQ342
  subst l342 y342 z342
  obtain ⟨rfl, N342q, hh342⟩ := hQ342
  refine own_back st342 ?_
  have N342 := Fr.app N0 N342q
  show OwnGo p e below (T342.setTop (mkF m 4 #[.val (.int (1 : Int32))] [(.int (2 : Int32))])) _
  obtain ⟨T343, h343, k343, X343, e343, E343, A343, st343⟩ := newP X342 hx hZ (hw _ (List.mem_of_getElem? (i := 19) rfl)) hh342 (g := (mkF m 4 #[.val (.int (1 : Int32))] [(.int (2 : Int32))])) rfl (hb hby nbf1_d4) rfl (by decide) (cap := 2) (by decide) (by decide) (Nat.le_of_ble_eq_true rfl) (Nat.le_of_ble_eq_true rfl)
  obtain ⟨b343, g343⟩ : ∃ z, z = h0.size := ⟨_, rfl⟩
  have ge344 : n0 ≤ b343 := Nat.le_trans Z0 (Nat.le_of_eq g343.symm)
  have sz345 : h0.size ≤ b343 := Nat.le_trans KP0.1 (Nat.le_of_eq g343.symm)
  rw [← g343] at A343 st343
  have O346 := OL.ext E343
  have KP347 := KP0.ext E343
  have Zs348 := Nat.le_trans Z0 E343.1
  have V349 : Arv Z h343 b343 k343 .byte (2 : Int32) [(.int (0 : Int32)), (.int (0 : Int32))] (.int (0 : Int32)) := (Arv.new A343 (by decide)).pad (pad_rep [] (.int (0 : Int32)) 2)
  refine own_back st343 ?_
  show OwnGo p e below (T343.setTop (mkF m 6 #[.val (.int (1 : Int32))] [(.ref b343)])) _
  refine own_retA X343 hx Bd.notSynchronized Bd.returns rfl rfl (hb hby nbf1_d6) e343 (Nat.le_of_ble_eq_true rfl) (Nat.le_of_ble_eq_true rfl) ?_
  exact ⟨b343, _, rfl, N342, own_ext KP347, ge344, sz345, V349⟩
theorem nbl2_d0 : decode jdk_52_method_3_code 0 = .ok (.iload_n 0, 1) := by decide +kernel
theorem nbl2_d1 : decode jdk_52_method_3_code 1 = .ok (.ifCond .ge 11, 3) := by decide +kernel
theorem nbl2_d12 : decode jdk_52_method_3_code 12 = .ok (.iload_n 0, 1) := by decide +kernel
theorem nbl2_d13 : decode jdk_52_method_3_code 13 = .ok (.ldc 20, 2) := by decide +kernel
theorem nbl2_d15 : decode jdk_52_method_3_code 15 = .ok (.if_icmp .lt 40, 3) := by decide +kernel
theorem nbl2_d55 : decode jdk_52_method_3_code 55 = .ok (.iload_n 0, 1) := by decide +kernel
theorem nbl2_d56 : decode jdk_52_method_3_code 56 = .ok (.iconst 1, 1) := by decide +kernel
theorem nbl2_d57 : decode jdk_52_method_3_code 57 = .ok (.ishl, 1) := by decide +kernel
theorem nbl2_d58 : decode jdk_52_method_3_code 58 = .ok (.ireturn, 1) := by decide +kernel
theorem nbl2_pn : plainName "java/lang/StringUTF16" = true := by first | (simp [plainName, overriddenIn]; done) | decide +kernel
theorem nbl2_ef (m : MethodId) (x0 : Int32) : entryFrame m #[(.int x0)] 1 = mkF m 0 #[.val (.int x0)] [] := by first | (simp [entryFrame, mkF, argsToLocals, Value.category]; done) | rfl
set_option maxRecDepth 65536 in
set_option maxHeartbeats 40000000 in
theorem rm_nbl2 (l : Launch) (Z : State) (a0 : Array Value) (hw : ∀ d ∈ tables_1, d.before a0 Z = true) (ws : List Jvm.Cond)  (h0 : Heap) (n0 : Nat) (Z0 : n0 ≤ h0.size)  :
    MetFree l (⟨"java/lang/StringUTF16", "newBytesLength", "(I)I"⟩ : MethodName) (head1 (Jvm.Cond.code (⟨"java/lang/StringUTF16", "newBytesLength", "(I)I"⟩ : MethodName) jdk_52_method_3_code 1 (some .int) :: ws) ({ frames := 0, cells := 0, slots := 0, locals := 0 } : Room)) (fun a U => a = #[(.int (2 : Int32))] ∧ Z.Warmed39 U.vm ∧ U.heap = h0) (fun _ _ _ _ _ => True) (fun _ U o U' => OwnEnd U (fun v h L => v = some (.int (4 : Int32)) ∧ Fr n0 L ∧ h = h0) ({ frames := 0, cells := 0, slots := 0, locals := 0 } : Room).cells ({ frames := 0, cells := 0, slots := 0, locals := 0 } : Room).slots o U') := by
  refine MetFree.of_bodySF (plainFor_of_name nbl2_pn) hisR ?_
  intro p e s m args below meth c s₁ Bd hml0 hP hK
  obtain ⟨rfl, hZ, hh⟩ := hP
  have hx := Bd.exec
  have hby := Bd.bytes
  have hml : c.maxLocals = 1 := hml0
  have hown : s.vm.findClass "java/lang/StringUTF16" = some m.cls := findClass_of_methodNamed Bd.named
  have hnm := (name_of_methodNamed Bd.named Bd.method).1
  have X0 : Stand p l e ({ frames := 0, cells := 0, slots := 0, locals := 0 } : Room) s m #[(.int (2 : Int32))] below meth c s₁ [] 0 0 := Stand.of_body Bd
  have e0 : s₁.heap = h0 := by rw [← hh, Bd.state]; rfl
  have N0 := Fr.nil n0
  have KP0 := Keep.refl h0 []
  refine own_go (Q := (OwnEnd s (fun v h L => v = some (.int (4 : Int32)) ∧ Fr n0 L ∧ h = h0) ({ frames := 0, cells := 0, slots := 0, locals := 0 } : Room).cells ({ frames := 0, cells := 0, slots := 0, locals := 0 } : Room).slots)) ?_
  refine own_back (fun t k => castTop (nbl2_ef m (2 : Int32)) k) ?_
  show OwnGo p e below (s₁.setTop (mkF m 0 #[.val (.int (2 : Int32))] [])) _
  refine own_back (fun t k => XS.iloadN X0.here hx rfl (hb hby nbl2_d0) rfl k) ?_
  show OwnGo p e below (s₁.setTop (mkF m 1 #[.val (.int (2 : Int32))] [(.int (2 : Int32))])) _
  refine own_back (fun t k => XS.ifYes X0.here hx rfl (pc0 := 1) (pc' := 12) rfl (hb hby nbl2_d1) rfl (Jvm.Free.XT.i0_ge_t (by decide)) (by decide) (by decide) k) ?_
  show OwnGo p e below (s₁.setTop (mkF m 12 #[.val (.int (2 : Int32))] [])) _
  refine own_back (fun t k => XS.iloadN X0.here hx rfl (hb hby nbl2_d12) rfl k) ?_
  show OwnGo p e below (s₁.setTop (mkF m 13 #[.val (.int (2 : Int32))] [(.int (2 : Int32))])) _
  refine own_back (fun t k => X0.ldcInt hx hown (mvT hZ (hw _ (List.mem_of_getElem? (i := 128) rfl))) (g := (mkF m 13 #[.val (.int (2 : Int32))] [(.int (2 : Int32))])) rfl (hb hby nbl2_d13) t k) ?_
  show OwnGo p e below (s₁.setTop (mkF m 15 #[.val (.int (2 : Int32))] [(.int (1073741823 : Int32)), (.int (2 : Int32))])) _
  refine own_back (fun t k => XS.icmpYes X0.here hx rfl (pc0 := 15) (pc' := 55) rfl (hb hby nbl2_d15) rfl (Jvm.Free.XT.ii_lt_t (by decide)) (by decide) (by decide) k) ?_
  show OwnGo p e below (s₁.setTop (mkF m 55 #[.val (.int (2 : Int32))] [])) _
  refine own_back (fun t k => XS.iloadN X0.here hx rfl (hb hby nbl2_d55) rfl k) ?_
  show OwnGo p e below (s₁.setTop (mkF m 56 #[.val (.int (2 : Int32))] [(.int (2 : Int32))])) _
  refine own_back (fun t k => XS.iconst X0.here hx rfl (hb hby nbl2_d56) k) ?_
  show OwnGo p e below (s₁.setTop (mkF m 57 #[.val (.int (2 : Int32))] [(.int (1 : Int32)), (.int (2 : Int32))])) _
  refine own_back (fun t k => XS.ishl X0.here hx rfl (hb hby nbl2_d57) rfl k) ?_
  show OwnGo p e below (s₁.setTop (mkF m 58 #[.val (.int (2 : Int32))] [(.int ((2 : Int32) <<< ((1 : Int32) &&& 31)))])) _
  refine own_retI X0 hx Bd.notSynchronized Bd.returns (hb hby nbl2_d58) e0 (Nat.le_of_ble_eq_true rfl) (Nat.le_of_ble_eq_true rfl) ?_
  exact ⟨rfl, N0, rfl⟩
theorem nbf2_d0 : decode jdk_52_method_2_code 0 = .ok (.iload_n 0, 1) := by decide +kernel
theorem nbf2_d1 : decode jdk_52_method_2_code 1 = .ok (.invokestatic 11, 3) := by decide +kernel
theorem nbf2_d4 : decode jdk_52_method_2_code 4 = .ok (.newarray .byte, 2) := by decide +kernel
theorem nbf2_d6 : decode jdk_52_method_2_code 6 = .ok (.areturn, 1) := by decide +kernel
theorem nbf2_pn : plainName "java/lang/StringUTF16" = true := by first | (simp [plainName, overriddenIn]; done) | decide +kernel
theorem nbf2_pd0 : parseMethodDescriptor "(I)I" = some ⟨[.int], some .int⟩ := by decide +kernel
theorem nbf2_ef (m : MethodId) (x0 : Int32) : entryFrame m #[(.int x0)] 1 = mkF m 0 #[.val (.int x0)] [] := by first | (simp [entryFrame, mkF, argsToLocals, Value.category]; done) | rfl
set_option maxRecDepth 65536 in
set_option maxHeartbeats 40000000 in
theorem rm_nbf2 (l : Launch) (Z : State) (a0 : Array Value) (hw : ∀ d ∈ tables_1, d.before a0 Z = true) (ws : List Jvm.Cond)  (h0 : Heap) (n0 : Nat) (Z0 : n0 ≤ h0.size) (OL : Old Z n0 h0) :
    MetFree l (⟨"java/lang/StringUTF16", "newBytesFor", "(I)[B"⟩ : MethodName) (head1 (Jvm.Cond.code (⟨"java/lang/StringUTF16", "newBytesFor", "(I)[B"⟩ : MethodName) jdk_52_method_2_code 1 (some (.array .byte)) :: ws) ({ frames := 1, cells := 1, slots := 4, locals := 14 } : Room)) (fun a U => a = #[(.int (2 : Int32))] ∧ Z.Warmed39 U.vm ∧ U.heap = h0) (fun _ _ _ _ _ => True) (fun _ U o U' => OwnEnd U (fun v h L => ∃ b k, v = some (.ref b) ∧ Fr n0 L ∧ Ext h0 h ∧ n0 ≤ b ∧ h0.size ≤ b ∧ Arv Z h b k .byte (4 : Int32) [.int 0, .int 0, .int 0, .int 0] (.int 0)) ({ frames := 1, cells := 1, slots := 4, locals := 14 } : Room).cells ({ frames := 1, cells := 1, slots := 4, locals := 14 } : Room).slots o U') := by
  refine MetFree.of_bodySF (plainFor_of_name nbf2_pn) hisR ?_
  intro p e s m args below meth c s₁ Bd hml0 hP hK
  obtain ⟨rfl, hZ, hh⟩ := hP
  have hx := Bd.exec
  have hby := Bd.bytes
  have hml : c.maxLocals = 1 := hml0
  have hown : s.vm.findClass "java/lang/StringUTF16" = some m.cls := findClass_of_methodNamed Bd.named
  have hnm := (name_of_methodNamed Bd.named Bd.method).1
  have X0 : Stand p l e ({ frames := 1, cells := 1, slots := 4, locals := 14 } : Room) s m #[(.int (2 : Int32))] below meth c s₁ [] 0 0 := Stand.of_body Bd
  have e0 : s₁.heap = h0 := by rw [← hh, Bd.state]; rfl
  have N0 := Fr.nil n0
  have KP0 := Keep.refl h0 []
  refine own_go (Q := (OwnEnd s (fun v h L => ∃ b k, v = some (.ref b) ∧ Fr n0 L ∧ Ext h0 h ∧ n0 ≤ b ∧ h0.size ≤ b ∧ Arv Z h b k .byte (4 : Int32) [.int 0, .int 0, .int 0, .int 0] (.int 0)) ({ frames := 1, cells := 1, slots := 4, locals := 14 } : Room).cells ({ frames := 1, cells := 1, slots := 4, locals := 14 } : Room).slots)) ?_
  refine own_back (fun t k => castTop (nbf2_ef m (2 : Int32)) k) ?_
  show OwnGo p e below (s₁.setTop (mkF m 0 #[.val (.int (2 : Int32))] [])) _
  refine own_back (fun t k => XS.iloadN X0.here hx rfl (hb hby nbf2_d0) rfl k) ?_
  show OwnGo p e below (s₁.setTop (mkF m 1 #[.val (.int (2 : Int32))] [(.int (2 : Int32))])) _
  obtain ⟨_, _, ⟨T350, L350, k350, n350⟩, -, X350, ⟨Lc350, hQ350, l350, y350, z350⟩, st350⟩ := Jvm.LawKit.callS X0 hx (y := (⟨"java/lang/StringUTF16", "newBytesLength", "(I)I"⟩ : MethodName)) hown (mvT hZ (hw _ (List.mem_of_getElem? (i := 125) rfl))) (mvT hZ (hw _ (List.mem_of_getElem? (i := 126) rfl))) (mvT hZ (hw _ (List.mem_of_getElem? (i := 112) rfl))) (mvT hZ (hw _ (List.mem_of_getElem? (i := 127) rfl))) (by decide) (own_backN (W := 0) (rm_nbl2 l Z a0 hw [] h0 n0 Z0) hZ (hw _ (List.mem_of_getElem? (i := 127) rfl)) (hw _ (List.mem_of_getElem? (i := 112) rfl)) (by decide) (by decide)) (g := (mkF m 1 #[.val (.int (2 : Int32))] [(.int (2 : Int32))])) rfl (by rw [hml]; rfl) (argsL := [(.int (2 : Int32))]) (rest := []) (lenOf nbf2_pd0 rfl) rfl (by show 2 * 0 + _ ≤ _; exact Nat.le_of_eq rfl) (hb hby nbf2_d1) (fun _ _ => ⟨rfl, e0, Nat.le_of_ble_eq_true rfl, Nat.le_of_ble_eq_true rfl⟩)
  dsimp only [Pt.U, Pt.locs, Pt.cells, Pt.slots] at X350 l350 y350 z350 st350 hQ350
  subst l350 y350 z350
  obtain ⟨rfl, N350q, hh350⟩ := hQ350
  refine own_back st350 ?_
  have N350 := Fr.app N0 N350q
  show OwnGo p e below (T350.setTop (mkF m 4 #[.val (.int (2 : Int32))] [(.int (4 : Int32))])) _
  obtain ⟨T351, h351, k351, X351, e351, E351, A351, st351⟩ := newP X350 hx hZ (hw _ (List.mem_of_getElem? (i := 19) rfl)) hh350 (g := (mkF m 4 #[.val (.int (2 : Int32))] [(.int (4 : Int32))])) rfl (hb hby nbf2_d4) rfl (by decide) (cap := 4) (by decide) (by decide) (Nat.le_of_ble_eq_true rfl) (Nat.le_of_ble_eq_true rfl)
  obtain ⟨b351, g351⟩ : ∃ z, z = h0.size := ⟨_, rfl⟩
  have ge352 : n0 ≤ b351 := Nat.le_trans Z0 (Nat.le_of_eq g351.symm)
  have sz353 : h0.size ≤ b351 := Nat.le_trans KP0.1 (Nat.le_of_eq g351.symm)
  rw [← g351] at A351 st351
  have O354 := OL.ext E351
  have KP355 := KP0.ext E351
  have Zs356 := Nat.le_trans Z0 E351.1
  have V357 : Arv Z h351 b351 k351 .byte (4 : Int32) [(.int (0 : Int32)), (.int (0 : Int32)), (.int (0 : Int32)), (.int (0 : Int32))] (.int (0 : Int32)) := (Arv.new A351 (by decide)).pad (pad_rep [] (.int (0 : Int32)) 4)
  refine own_back st351 ?_
  show OwnGo p e below (T351.setTop (mkF m 6 #[.val (.int (2 : Int32))] [(.ref b351)])) _
  refine own_retA X351 hx Bd.notSynchronized Bd.returns rfl rfl (hb hby nbf2_d6) e351 (Nat.le_of_ble_eq_true rfl) (Nat.le_of_ble_eq_true rfl) ?_
  exact ⟨b351, _, rfl, N350, own_ext KP355, ge352, sz353, V357⟩
theorem m43_d0 : decode jdk_29_method_69_code 0 = .ok (.iload_n 0, 1) := by decide +kernel
theorem m43_d1 : decode jdk_29_method_69_code 1 = .ok (.iload_n 1, 1) := by decide +kernel
theorem m43_d2 : decode jdk_29_method_69_code 2 = .ok (.if_icmp .gt 7, 3) := by decide +kernel
theorem m43_d9 : decode jdk_29_method_69_code 9 = .ok (.iload_n 1, 1) := by decide +kernel
theorem m43_d10 : decode jdk_29_method_69_code 10 = .ok (.ireturn, 1) := by decide +kernel
theorem m43_ef (m : MethodId) (x0 : Int32) (x1 : Int32) : entryFrame m #[(.int x0), (.int x1)] 2 = mkF m 0 #[.val (.int x0), .val (.int x1)] [] := by first | (simp [entryFrame, mkF, argsToLocals, Value.category]; done) | rfl
set_option maxRecDepth 65536 in
set_option maxHeartbeats 40000000 in
theorem rm_m43 (l : Launch) (Z : State) (a0 : Array Value) (hw : ∀ d ∈ tables_1, d.before a0 Z = true) (ws : List Jvm.Cond)  (h0 : Heap) (n0 : Nat) (Z0 : n0 ≤ h0.size)  :
    MetFree l (⟨"java/lang/Math", "min", "(II)I"⟩ : MethodName) (head1 (Jvm.Cond.code (⟨"java/lang/Math", "min", "(II)I"⟩ : MethodName) jdk_29_method_69_code 2 (some .int) :: ws) ({ frames := 0, cells := 0, slots := 0, locals := 0 } : Room)) (fun a U => a = #[(.int (4 : Int32)), (.int (3 : Int32))] ∧ Z.Warmed39 U.vm ∧ U.heap = h0) (fun _ _ _ _ _ => True) (fun _ U o U' => OwnEnd U (fun v h L => v = some (.int (3 : Int32)) ∧ Fr n0 L ∧ h = h0) ({ frames := 0, cells := 0, slots := 0, locals := 0 } : Room).cells ({ frames := 0, cells := 0, slots := 0, locals := 0 } : Room).slots o U') := by
  refine MetFree.of_bodySF (Jvm.Free.JP.mathPlain rfl (by decide +kernel)) hisR ?_
  intro p e s m args below meth c s₁ Bd hml0 hP hK
  obtain ⟨rfl, hZ, hh⟩ := hP
  have hx := Bd.exec
  have hby := Bd.bytes
  have hml : c.maxLocals = 2 := hml0
  have hown : s.vm.findClass "java/lang/Math" = some m.cls := findClass_of_methodNamed Bd.named
  have hnm := (name_of_methodNamed Bd.named Bd.method).1
  have X0 : Stand p l e ({ frames := 0, cells := 0, slots := 0, locals := 0 } : Room) s m #[(.int (4 : Int32)), (.int (3 : Int32))] below meth c s₁ [] 0 0 := Stand.of_body Bd
  have e0 : s₁.heap = h0 := by rw [← hh, Bd.state]; rfl
  have N0 := Fr.nil n0
  have KP0 := Keep.refl h0 []
  refine own_go (Q := (OwnEnd s (fun v h L => v = some (.int (3 : Int32)) ∧ Fr n0 L ∧ h = h0) ({ frames := 0, cells := 0, slots := 0, locals := 0 } : Room).cells ({ frames := 0, cells := 0, slots := 0, locals := 0 } : Room).slots)) ?_
  refine own_back (fun t k => castTop (m43_ef m (4 : Int32) (3 : Int32)) k) ?_
  show OwnGo p e below (s₁.setTop (mkF m 0 #[.val (.int (4 : Int32)), .val (.int (3 : Int32))] [])) _
  refine own_back (fun t k => XS.iloadN X0.here hx rfl (hb hby m43_d0) rfl k) ?_
  show OwnGo p e below (s₁.setTop (mkF m 1 #[.val (.int (4 : Int32)), .val (.int (3 : Int32))] [(.int (4 : Int32))])) _
  refine own_back (fun t k => XS.iloadN X0.here hx rfl (hb hby m43_d1) rfl k) ?_
  show OwnGo p e below (s₁.setTop (mkF m 2 #[.val (.int (4 : Int32)), .val (.int (3 : Int32))] [(.int (3 : Int32)), (.int (4 : Int32))])) _
  refine own_back (fun t k => XS.icmpYes X0.here hx rfl (pc0 := 2) (pc' := 9) rfl (hb hby m43_d2) rfl (Jvm.Free.XT.ii_gt_t (by decide)) (by decide) (by decide) k) ?_
  show OwnGo p e below (s₁.setTop (mkF m 9 #[.val (.int (4 : Int32)), .val (.int (3 : Int32))] [])) _
  refine own_back (fun t k => XS.iloadN X0.here hx rfl (hb hby m43_d9) rfl k) ?_
  show OwnGo p e below (s₁.setTop (mkF m 10 #[.val (.int (4 : Int32)), .val (.int (3 : Int32))] [(.int (3 : Int32))])) _
  refine own_retI X0 hx Bd.notSynchronized Bd.returns (hb hby m43_d10) e0 (Nat.le_of_ble_eq_true rfl) (Nat.le_of_ble_eq_true rfl) ?_
  exact ⟨rfl, N0, rfl⟩
theorem cof_d0 : decode jdk_65_method_121_code 0 = .ok (.iload_n 1, 1) := by decide +kernel
theorem cof_d1 : decode jdk_65_method_121_code 1 = .ok (.aload_n 0, 1) := by decide +kernel
theorem cof_d2 : decode jdk_65_method_121_code 2 = .ok (.arraylength, 1) := by decide +kernel
theorem cof_d3 : decode jdk_65_method_121_code 3 = .ok (.if_icmp .ne 11, 3) := by decide +kernel
theorem cof_d14 : decode jdk_65_method_121_code 14 = .ok (.iload_n 1, 1) := by decide +kernel
theorem cof_d15 : decode jdk_65_method_121_code 15 = .ok (.newarray .byte, 2) := by decide +kernel
theorem cof_d17 : decode jdk_65_method_121_code 17 = .ok (.astore_n 2, 1) := by decide +kernel
theorem cof_d18 : decode jdk_65_method_121_code 18 = .ok (.aload_n 0, 1) := by decide +kernel
theorem cof_d19 : decode jdk_65_method_121_code 19 = .ok (.iconst 0, 1) := by decide +kernel
theorem cof_d20 : decode jdk_65_method_121_code 20 = .ok (.aload_n 2, 1) := by decide +kernel
theorem cof_d21 : decode jdk_65_method_121_code 21 = .ok (.iconst 0, 1) := by decide +kernel
theorem cof_d22 : decode jdk_65_method_121_code 22 = .ok (.aload_n 0, 1) := by decide +kernel
theorem cof_d23 : decode jdk_65_method_121_code 23 = .ok (.arraylength, 1) := by decide +kernel
theorem cof_d24 : decode jdk_65_method_121_code 24 = .ok (.iload_n 1, 1) := by decide +kernel
theorem cof_d25 : decode jdk_65_method_121_code 25 = .ok (.invokestatic 304, 3) := by decide +kernel
theorem cof_d28 : decode jdk_65_method_121_code 28 = .ok (.invokestatic 150, 3) := by decide +kernel
theorem cof_d31 : decode jdk_65_method_121_code 31 = .ok (.aload_n 2, 1) := by decide +kernel
theorem cof_d32 : decode jdk_65_method_121_code 32 = .ok (.areturn, 1) := by decide +kernel
theorem cof_pn : plainName "java/util/Arrays" = true := by first | (simp [plainName, overriddenIn]; done) | decide +kernel
theorem cof_pd0 : parseMethodDescriptor "(II)I" = some ⟨[.int, .int], some .int⟩ := by decide +kernel
theorem cof_ef (m : MethodId) (x0 : Addr) (x1 : Int32) : entryFrame m #[(.ref x0), (.int x1)] 3 = mkF m 0 #[.val (.ref x0), .val (.int x1), .unset] [] := by first | (simp [entryFrame, mkF, argsToLocals, Value.category]; done) | rfl
set_option maxRecDepth 65536 in
set_option maxHeartbeats 40000000 in
theorem rm_cof (l : Launch) (Z : State) (a0 : Array Value) (hw : ∀ d ∈ tables_1, d.before a0 Z = true) (ws : List Jvm.Cond) (t1 : Addr) (k1 : ClassId) (y0 : Int32) (y1 : Int32) (y2 : Int32) (y3 : Int32) (h0 : Heap) (n0 : Nat) (Z0 : n0 ≤ h0.size) (OL : Old Z n0 h0) (V1 : Arv Z h0 t1 k1 .byte (4 : Int32) [.int y0, .int y1, .int y2, .int y3] (.int 0)) :
    MetFree l (⟨"java/util/Arrays", "copyOf", "([BI)[B"⟩ : MethodName) (head1 (Jvm.Cond.code (⟨"java/util/Arrays", "copyOf", "([BI)[B"⟩ : MethodName) jdk_65_method_121_code 3 (some (.array .byte)) :: ws) ({ frames := 1, cells := 1, slots := 4, locals := 60 } : Room)) (fun a U => a = #[(.ref t1), (.int (3 : Int32))] ∧ Z.Warmed39 U.vm ∧ U.heap = h0) (fun _ _ _ _ _ => True) (fun _ U o U' => OwnEnd U (fun v h L => ∃ b, v = some (.ref b) ∧ Fr n0 L ∧ Ext h0 h) ({ frames := 1, cells := 1, slots := 4, locals := 60 } : Room).cells ({ frames := 1, cells := 1, slots := 4, locals := 60 } : Room).slots o U') := by
  refine MetFree.of_bodySF (plainFor_of_name cof_pn) hisR ?_
  intro p e s m args below meth c s₁ Bd hml0 hP hK
  obtain ⟨rfl, hZ, hh⟩ := hP
  have hx := Bd.exec
  have hby := Bd.bytes
  have hml : c.maxLocals = 3 := hml0
  have hown : s.vm.findClass "java/util/Arrays" = some m.cls := findClass_of_methodNamed Bd.named
  have hnm := (name_of_methodNamed Bd.named Bd.method).1
  have X0 : Stand p l e ({ frames := 1, cells := 1, slots := 4, locals := 60 } : Room) s m #[(.ref t1), (.int (3 : Int32))] below meth c s₁ [] 0 0 := Stand.of_body Bd
  have e0 : s₁.heap = h0 := by rw [← hh, Bd.state]; rfl
  have N0 := Fr.nil n0
  have KP0 := Keep.refl h0 []
  refine own_go (Q := (OwnEnd s (fun v h L => ∃ b, v = some (.ref b) ∧ Fr n0 L ∧ Ext h0 h) ({ frames := 1, cells := 1, slots := 4, locals := 60 } : Room).cells ({ frames := 1, cells := 1, slots := 4, locals := 60 } : Room).slots)) ?_
  refine own_back (fun t k => castTop (cof_ef m t1 (3 : Int32)) k) ?_
  show OwnGo p e below (s₁.setTop (mkF m 0 #[.val (.ref t1), .val (.int (3 : Int32)), .unset] [])) _
  refine own_back (fun t k => XS.iloadN X0.here hx rfl (hb hby cof_d0) rfl k) ?_
  show OwnGo p e below (s₁.setTop (mkF m 1 #[.val (.ref t1), .val (.int (3 : Int32)), .unset] [(.int (3 : Int32))])) _
  refine own_back (fun t k => XS.aloadN X0.here hx rfl (hb hby cof_d1) rfl rfl k) ?_
  show OwnGo p e below (s₁.setTop (mkF m 2 #[.val (.ref t1), .val (.int (3 : Int32)), .unset] [(.ref t1), (.int (3 : Int32))])) _
  obtain ⟨c358, A358, q358, S358, M358, H358, U358⟩ := id V1
  refine own_back (fun t k => X0.arraylength hx (own_hat e0 A358.1) (State.isArrayOf_alike hZ.alike A358.2.1) (g := (mkF m 2 #[.val (.ref t1), .val (.int (3 : Int32)), .unset] [(.ref t1), (.int (3 : Int32))])) rfl rfl (hb hby cof_d2) t k) ?_
  rw [len_of S358 M358]
  show OwnGo p e below (s₁.setTop (mkF m 3 #[.val (.ref t1), .val (.int (3 : Int32)), .unset] [(.int (4 : Int32)), (.int (3 : Int32))])) _
  refine own_back (fun t k => XS.icmpYes X0.here hx rfl (pc0 := 3) (pc' := 14) rfl (hb hby cof_d3) rfl (Jvm.Free.XT.ii_ne_t (by decide)) (by decide) (by decide) k) ?_
  show OwnGo p e below (s₁.setTop (mkF m 14 #[.val (.ref t1), .val (.int (3 : Int32)), .unset] [])) _
  refine own_back (fun t k => XS.iloadN X0.here hx rfl (hb hby cof_d14) rfl k) ?_
  show OwnGo p e below (s₁.setTop (mkF m 15 #[.val (.ref t1), .val (.int (3 : Int32)), .unset] [(.int (3 : Int32))])) _
  obtain ⟨T359, h359, k359, X359, e359, E359, A359, st359⟩ := newP X0 hx hZ (hw _ (List.mem_of_getElem? (i := 19) rfl)) e0 (g := (mkF m 15 #[.val (.ref t1), .val (.int (3 : Int32)), .unset] [(.int (3 : Int32))])) rfl (hb hby cof_d15) rfl (by decide) (cap := 3) (by decide) (by decide) (Nat.le_of_ble_eq_true rfl) (Nat.le_of_ble_eq_true rfl)
  obtain ⟨b359, g359⟩ : ∃ z, z = h0.size := ⟨_, rfl⟩
  have ge360 : n0 ≤ b359 := Nat.le_trans Z0 (Nat.le_of_eq g359.symm)
  have sz361 : h0.size ≤ b359 := Nat.le_trans KP0.1 (Nat.le_of_eq g359.symm)
  rw [← g359] at A359 st359
  have O362 := OL.ext E359
  have KP363 := KP0.ext E359
  have Zs364 := Nat.le_trans Z0 E359.1
  have f365 := V1.ext E359
  have V366 : Arv Z h359 b359 k359 .byte (3 : Int32) [(.int (0 : Int32)), (.int (0 : Int32)), (.int (0 : Int32))] (.int (0 : Int32)) := (Arv.new A359 (by decide)).pad (pad_rep [] (.int (0 : Int32)) 3)
  refine own_back st359 ?_
  show OwnGo p e below (T359.setTop (mkF m 17 #[.val (.ref t1), .val (.int (3 : Int32)), .unset] [(.ref b359)])) _
  refine own_back (fun t k => XS.astoreN X359.here hx rfl (hb hby cof_d17) rfl rfl (l' := #[.val (.ref t1), .val (.int (3 : Int32)), .val (.ref b359)]) rfl k) ?_
  show OwnGo p e below (T359.setTop (mkF m 18 #[.val (.ref t1), .val (.int (3 : Int32)), .val (.ref b359)] [])) _
  refine own_back (fun t k => XS.aloadN X359.here hx rfl (hb hby cof_d18) rfl rfl k) ?_
  show OwnGo p e below (T359.setTop (mkF m 19 #[.val (.ref t1), .val (.int (3 : Int32)), .val (.ref b359)] [(.ref t1)])) _
  refine own_back (fun t k => XS.iconst X359.here hx rfl (hb hby cof_d19) k) ?_
  show OwnGo p e below (T359.setTop (mkF m 20 #[.val (.ref t1), .val (.int (3 : Int32)), .val (.ref b359)] [(.int (0 : Int32)), (.ref t1)])) _
  refine own_back (fun t k => XS.aloadN X359.here hx rfl (hb hby cof_d20) rfl rfl k) ?_
  show OwnGo p e below (T359.setTop (mkF m 21 #[.val (.ref t1), .val (.int (3 : Int32)), .val (.ref b359)] [(.ref b359), (.int (0 : Int32)), (.ref t1)])) _
  refine own_back (fun t k => XS.iconst X359.here hx rfl (hb hby cof_d21) k) ?_
  show OwnGo p e below (T359.setTop (mkF m 22 #[.val (.ref t1), .val (.int (3 : Int32)), .val (.ref b359)] [(.int (0 : Int32)), (.ref b359), (.int (0 : Int32)), (.ref t1)])) _
  refine own_back (fun t k => XS.aloadN X359.here hx rfl (hb hby cof_d22) rfl rfl k) ?_
  show OwnGo p e below (T359.setTop (mkF m 23 #[.val (.ref t1), .val (.int (3 : Int32)), .val (.ref b359)] [(.ref t1), (.int (0 : Int32)), (.ref b359), (.int (0 : Int32)), (.ref t1)])) _
  obtain ⟨c367, A367, q367, S367, M367, H367, U367⟩ := id f365
  refine own_back (fun t k => X359.arraylength hx (own_hat e359 A367.1) (State.isArrayOf_alike hZ.alike A367.2.1) (g := (mkF m 23 #[.val (.ref t1), .val (.int (3 : Int32)), .val (.ref b359)] [(.ref t1), (.int (0 : Int32)), (.ref b359), (.int (0 : Int32)), (.ref t1)])) rfl rfl (hb hby cof_d23) t k) ?_
  rw [len_of S367 M367]
  show OwnGo p e below (T359.setTop (mkF m 24 #[.val (.ref t1), .val (.int (3 : Int32)), .val (.ref b359)] [(.int (4 : Int32)), (.int (0 : Int32)), (.ref b359), (.int (0 : Int32)), (.ref t1)])) _
  refine own_back (fun t k => XS.iloadN X359.here hx rfl (hb hby cof_d24) rfl k) ?_
  show OwnGo p e below (T359.setTop (mkF m 25 #[.val (.ref t1), .val (.int (3 : Int32)), .val (.ref b359)] [(.int (3 : Int32)), (.int (4 : Int32)), (.int (0 : Int32)), (.ref b359), (.int (0 : Int32)), (.ref t1)])) _
  obtain ⟨_, _, ⟨T368, L368, k368, n368⟩, -, X368, ⟨Lc368, hQ368, l368, y368, z368⟩, st368⟩ := Jvm.LawKit.callS X359 hx (y := (⟨"java/lang/Math", "min", "(II)I"⟩ : MethodName)) hown (mvT hZ (hw _ (List.mem_of_getElem? (i := 139) rfl))) (mvT hZ (hw _ (List.mem_of_getElem? (i := 140) rfl))) (mvT hZ (hw _ (List.mem_of_getElem? (i := 141) rfl))) (mvT hZ (hw _ (List.mem_of_getElem? (i := 142) rfl))) (by decide) (own_backN (W := 4) (rm_m43 l Z a0 hw [] h359 n0 Zs364) hZ (hw _ (List.mem_of_getElem? (i := 142) rfl)) (hw _ (List.mem_of_getElem? (i := 141) rfl)) (by decide) (by decide)) (g := (mkF m 25 #[.val (.ref t1), .val (.int (3 : Int32)), .val (.ref b359)] [(.int (3 : Int32)), (.int (4 : Int32)), (.int (0 : Int32)), (.ref b359), (.int (0 : Int32)), (.ref t1)])) rfl (by rw [hml]; rfl) (argsL := [(.int (4 : Int32)), (.int (3 : Int32))]) (rest := [(.int (0 : Int32)), (.ref b359), (.int (0 : Int32)), (.ref t1)]) (lenOf cof_pd0 rfl) rfl (by show 2 * 0 + _ ≤ _; exact Nat.le_of_eq rfl) (hb hby cof_d25) (fun _ _ => ⟨rfl, e359, Nat.le_of_ble_eq_true rfl, Nat.le_of_ble_eq_true rfl⟩)
  dsimp only [Pt.U, Pt.locs, Pt.cells, Pt.slots] at X368 l368 y368 z368 st368 hQ368
  subst l368 y368 z368
  obtain ⟨rfl, N368q, hh368⟩ := hQ368
  refine own_back st368 ?_
  have N368 := Fr.app N0 N368q
  show OwnGo p e below (T368.setTop (mkF m 28 #[.val (.ref t1), .val (.int (3 : Int32)), .val (.ref b359)] [(.int (3 : Int32)), (.int (0 : Int32)), (.ref b359), (.int (0 : Int32)), (.ref t1)])) _
  obtain ⟨T369, h369, Lq369, X369, e369, N369, K369, V369, st369⟩ := cpA X368 hx hZ hown (hw _ (List.mem_of_getElem? (i := 143) rfl)) (hw _ (List.mem_of_getElem? (i := 146) rfl)) (hw _ (List.mem_of_getElem? (i := 144) rfl)) (hw _ (List.mem_of_getElem? (i := 145) rfl)) hh368 f365 V366 (Or.inl ⟨rfl, rfl⟩) (by decide) (by decide) (by decide) (by decide) (by decide) rfl (by decide) N368 ge360 (g := (mkF m 28 #[.val (.ref t1), .val (.int (3 : Int32)), .val (.ref b359)] [(.int (3 : Int32)), (.int (0 : Int32)), (.ref b359), (.int (0 : Int32)), (.ref t1)])) rfl (by rw [hml]; rfl) (rest := []) rfl (hb hby cof_d28) (by decide) (W := 0) (by show 2 * 0 + _ ≤ _; exact Nat.le_of_eq rfl) (by decide)
  refine own_back st369 ?_
  have O370 := O362.keep K369 (allS ge360 all0)
  have KP371 := KP363.trans K369 (allS (Or.inr sz361) all0)
  have Zs372 := Nat.le_trans Zs364 K369.1
  show OwnGo p e below (T369.setTop (mkF m 31 #[.val (.ref t1), .val (.int (3 : Int32)), .val (.ref b359)] [])) _
  refine own_back (fun t k => XS.aloadN X369.here hx rfl (hb hby cof_d31) rfl rfl k) ?_
  show OwnGo p e below (T369.setTop (mkF m 32 #[.val (.ref t1), .val (.int (3 : Int32)), .val (.ref b359)] [(.ref b359)])) _
  refine own_retA X369 hx Bd.notSynchronized Bd.returns rfl rfl (hb hby cof_d32) e369 (Nat.le_of_ble_eq_true rfl) (Nat.le_of_ble_eq_true rfl) ?_
  exact ⟨_, rfl, N369, own_ext KP371⟩
theorem cp_d0 : decode jdk_123_method_3_code 0 = .ok (.iload_n 1, 1) := by decide +kernel
theorem cp_d1 : decode jdk_123_method_3_code 1 = .ok (.iload_n 2, 1) := by decide +kernel
theorem cp_d2 : decode jdk_123_method_3_code 2 = .ok (.iadd, 1) := by decide +kernel
theorem cp_d3 : decode jdk_123_method_3_code 3 = .ok (.istore_n 3, 1) := by decide +kernel
theorem cp_d4 : decode jdk_123_method_3_code 4 = .ok (.iload_n 1, 1) := by decide +kernel
theorem cp_d5 : decode jdk_123_method_3_code 5 = .ok (.istore 4, 2) := by decide +kernel
theorem cp_d7 : decode jdk_123_method_3_code 7 = .ok (.iload 4, 2) := by decide +kernel
theorem cp_d9 : decode jdk_123_method_3_code 9 = .ok (.iload_n 3, 1) := by decide +kernel
theorem cp_d10 : decode jdk_123_method_3_code 10 = .ok (.if_icmp .ge 21, 3) := by decide +kernel
theorem cp_d31 : decode jdk_123_method_3_code 31 = .ok (.iload_n 2, 1) := by decide +kernel
theorem cp_d32 : decode jdk_123_method_3_code 32 = .ok (.ireturn, 1) := by decide +kernel
theorem cp_pn : plainName "java/lang/StringCoding" = true := by first | (simp [plainName, overriddenIn]; done) | decide +kernel
theorem cp_ef (m : MethodId) (x0 : Addr) (x1 : Int32) (x2 : Int32) : entryFrame m #[(.ref x0), (.int x2), (.int x2)] 5 = mkF m 0 #[.val (.ref x0), .val (.int x2), .val (.int x2), .unset, .unset] [] := by first | (simp [entryFrame, mkF, argsToLocals, Value.category]; done) | rfl
set_option maxRecDepth 65536 in
set_option maxHeartbeats 40000000 in
theorem rm_cp (l : Launch) (Z : State) (a0 : Array Value) (hw : ∀ d ∈ tables_1, d.before a0 Z = true) (ws : List Jvm.Cond) (t1 : Addr) (k1 : ClassId) (h0 : Heap) (n0 : Nat) (Z0 : n0 ≤ h0.size) (V1 : Arv Z h0 t1 k1 .byte (0 : Int32) [] (.int 0)) :
    MetFree l (⟨"java/lang/StringCoding", "countPositives", "([BII)I"⟩ : MethodName) (head1 (Jvm.Cond.code (⟨"java/lang/StringCoding", "countPositives", "([BII)I"⟩ : MethodName) jdk_123_method_3_code 5 (some .int) :: ws) ({ frames := 0, cells := 0, slots := 0, locals := 0 } : Room)) (fun a U => a = #[(.ref t1), (.int (0 : Int32)), (.int (0 : Int32))] ∧ Z.Warmed39 U.vm ∧ U.heap = h0) (fun _ _ _ _ _ => True) (fun _ U o U' => OwnEnd U (fun v h L => v = some (.int (0 : Int32)) ∧ Fr n0 L ∧ h = h0) ({ frames := 0, cells := 0, slots := 0, locals := 0 } : Room).cells ({ frames := 0, cells := 0, slots := 0, locals := 0 } : Room).slots o U') := by
  refine MetFree.of_bodySF (plainFor_of_name cp_pn) hisR ?_
  intro p e s m args below meth c s₁ Bd hml0 hP hK
  obtain ⟨rfl, hZ, hh⟩ := hP
  have hx := Bd.exec
  have hby := Bd.bytes
  have hml : c.maxLocals = 5 := hml0
  have hown : s.vm.findClass "java/lang/StringCoding" = some m.cls := findClass_of_methodNamed Bd.named
  have hnm := (name_of_methodNamed Bd.named Bd.method).1
  have X0 : Stand p l e ({ frames := 0, cells := 0, slots := 0, locals := 0 } : Room) s m #[(.ref t1), (.int (0 : Int32)), (.int (0 : Int32))] below meth c s₁ [] 0 0 := Stand.of_body Bd
  have e0 : s₁.heap = h0 := by rw [← hh, Bd.state]; rfl
  have N0 := Fr.nil n0
  have KP0 := Keep.refl h0 []
  refine own_go (Q := (OwnEnd s (fun v h L => v = some (.int (0 : Int32)) ∧ Fr n0 L ∧ h = h0) ({ frames := 0, cells := 0, slots := 0, locals := 0 } : Room).cells ({ frames := 0, cells := 0, slots := 0, locals := 0 } : Room).slots)) ?_
  refine own_back (fun t k => castTop (cp_ef m t1 (0 : Int32) (0 : Int32)) k) ?_
  show OwnGo p e below (s₁.setTop (mkF m 0 #[.val (.ref t1), .val (.int (0 : Int32)), .val (.int (0 : Int32)), .unset, .unset] [])) _
  refine own_back (fun t k => XS.iloadN X0.here hx rfl (hb hby cp_d0) rfl k) ?_
  show OwnGo p e below (s₁.setTop (mkF m 1 #[.val (.ref t1), .val (.int (0 : Int32)), .val (.int (0 : Int32)), .unset, .unset] [(.int (0 : Int32))])) _
  refine own_back (fun t k => XS.iloadN X0.here hx rfl (hb hby cp_d1) rfl k) ?_
  show OwnGo p e below (s₁.setTop (mkF m 2 #[.val (.ref t1), .val (.int (0 : Int32)), .val (.int (0 : Int32)), .unset, .unset] [(.int (0 : Int32)), (.int (0 : Int32))])) _
  refine own_back (fun t k => XS.iadd X0.here hx rfl (hb hby cp_d2) rfl k) ?_
  show OwnGo p e below (s₁.setTop (mkF m 3 #[.val (.ref t1), .val (.int (0 : Int32)), .val (.int (0 : Int32)), .unset, .unset] [(.int (0 : Int32))])) _
  refine own_back (fun t k => XS.istoreN X0.here hx rfl (hb hby cp_d3) rfl (l' := #[.val (.ref t1), .val (.int (0 : Int32)), .val (.int (0 : Int32)), .val (.int (0 : Int32)), .unset]) rfl k) ?_
  show OwnGo p e below (s₁.setTop (mkF m 4 #[.val (.ref t1), .val (.int (0 : Int32)), .val (.int (0 : Int32)), .val (.int (0 : Int32)), .unset] [])) _
  refine own_back (fun t k => XS.iloadN X0.here hx rfl (hb hby cp_d4) rfl k) ?_
  show OwnGo p e below (s₁.setTop (mkF m 5 #[.val (.ref t1), .val (.int (0 : Int32)), .val (.int (0 : Int32)), .val (.int (0 : Int32)), .unset] [(.int (0 : Int32))])) _
  refine own_back (fun t k => XS.istore X0.here hx rfl (hb hby cp_d5) rfl (l' := #[.val (.ref t1), .val (.int (0 : Int32)), .val (.int (0 : Int32)), .val (.int (0 : Int32)), .val (.int (0 : Int32))]) rfl k) ?_
  show OwnGo p e below (s₁.setTop (mkF m 7 #[.val (.ref t1), .val (.int (0 : Int32)), .val (.int (0 : Int32)), .val (.int (0 : Int32)), .val (.int (0 : Int32))] [])) _
  refine own_back (fun t k => XS.iload X0.here hx rfl (hb hby cp_d7) rfl k) ?_
  show OwnGo p e below (s₁.setTop (mkF m 9 #[.val (.ref t1), .val (.int (0 : Int32)), .val (.int (0 : Int32)), .val (.int (0 : Int32)), .val (.int (0 : Int32))] [(.int (0 : Int32))])) _
  refine own_back (fun t k => XS.iloadN X0.here hx rfl (hb hby cp_d9) rfl k) ?_
  show OwnGo p e below (s₁.setTop (mkF m 10 #[.val (.ref t1), .val (.int (0 : Int32)), .val (.int (0 : Int32)), .val (.int (0 : Int32)), .val (.int (0 : Int32))] [(.int (0 : Int32)), (.int (0 : Int32))])) _
  refine own_back (fun t k => XS.icmpYes X0.here hx rfl (pc0 := 10) (pc' := 31) rfl (hb hby cp_d10) rfl (Jvm.Free.XT.ii_ge_t (by decide)) (by decide) (by decide) k) ?_
  show OwnGo p e below (s₁.setTop (mkF m 31 #[.val (.ref t1), .val (.int (0 : Int32)), .val (.int (0 : Int32)), .val (.int (0 : Int32)), .val (.int (0 : Int32))] [])) _
  refine own_back (fun t k => XS.iloadN X0.here hx rfl (hb hby cp_d31) rfl k) ?_
  show OwnGo p e below (s₁.setTop (mkF m 32 #[.val (.ref t1), .val (.int (0 : Int32)), .val (.int (0 : Int32)), .val (.int (0 : Int32)), .val (.int (0 : Int32))] [(.int (0 : Int32))])) _
  refine own_retI X0 hx Bd.notSynchronized Bd.returns (hb hby cp_d32) e0 (Nat.le_of_ble_eq_true rfl) (Nat.le_of_ble_eq_true rfl) ?_
  exact ⟨rfl, N0, rfl⟩
theorem hn_d0 : decode jdk_123_method_2_code 0 = .ok (.aload_n 0, 1) := by decide +kernel
theorem hn_d1 : decode jdk_123_method_2_code 1 = .ok (.iload_n 1, 1) := by decide +kernel
theorem hn_d2 : decode jdk_123_method_2_code 2 = .ok (.iload_n 2, 1) := by decide +kernel
theorem hn_d3 : decode jdk_123_method_2_code 3 = .ok (.invokestatic 7, 3) := by decide +kernel
theorem hn_d6 : decode jdk_123_method_2_code 6 = .ok (.iload_n 2, 1) := by decide +kernel
theorem hn_d7 : decode jdk_123_method_2_code 7 = .ok (.if_icmp .eq 7, 3) := by decide +kernel
theorem hn_d14 : decode jdk_123_method_2_code 14 = .ok (.iconst 0, 1) := by decide +kernel
theorem hn_d15 : decode jdk_123_method_2_code 15 = .ok (.ireturn, 1) := by decide +kernel
theorem hn_pn : plainName "java/lang/StringCoding" = true := by first | (simp [plainName, overriddenIn]; done) | decide +kernel
theorem hn_pd0 : parseMethodDescriptor "([BII)I" = some ⟨[(.array .byte), .int, .int], some .int⟩ := by decide +kernel
theorem hn_ef (m : MethodId) (x0 : Addr) (x1 : Int32) (x2 : Int32) : entryFrame m #[(.ref x0), (.int x2), (.int x2)] 3 = mkF m 0 #[.val (.ref x0), .val (.int x2), .val (.int x2)] [] := by first | (simp [entryFrame, mkF, argsToLocals, Value.category]; done) | rfl
set_option maxRecDepth 65536 in
set_option maxHeartbeats 40000000 in
theorem rm_hn (l : Launch) (Z : State) (a0 : Array Value) (hw : ∀ d ∈ tables_1, d.before a0 Z = true) (ws : List Jvm.Cond) (t1 : Addr) (k1 : ClassId) (h0 : Heap) (n0 : Nat) (Z0 : n0 ≤ h0.size) (V1 : Arv Z h0 t1 k1 .byte (0 : Int32) [] (.int 0)) :
    MetFree l (⟨"java/lang/StringCoding", "hasNegatives", "([BII)Z"⟩ : MethodName) (head1 (Jvm.Cond.code (⟨"java/lang/StringCoding", "hasNegatives", "([BII)Z"⟩ : MethodName) jdk_123_method_2_code 3 (some .boolean) :: ws) ({ frames := 1, cells := 0, slots := 0, locals := 20 } : Room)) (fun a U => a = #[(.ref t1), (.int (0 : Int32)), (.int (0 : Int32))] ∧ Z.Warmed39 U.vm ∧ U.heap = h0) (fun _ _ _ _ _ => True) (fun _ U o U' => OwnEnd U (fun v h L => v = some (.int (0 : Int32)) ∧ Fr n0 L ∧ h = h0) ({ frames := 1, cells := 0, slots := 0, locals := 20 } : Room).cells ({ frames := 1, cells := 0, slots := 0, locals := 20 } : Room).slots o U') := by
  refine MetFree.of_bodySF (plainFor_of_name hn_pn) hisR ?_
  intro p e s m args below meth c s₁ Bd hml0 hP hK
  obtain ⟨rfl, hZ, hh⟩ := hP
  have hx := Bd.exec
  have hby := Bd.bytes
  have hml : c.maxLocals = 3 := hml0
  have hown : s.vm.findClass "java/lang/StringCoding" = some m.cls := findClass_of_methodNamed Bd.named
  have hnm := (name_of_methodNamed Bd.named Bd.method).1
  have X0 : Stand p l e ({ frames := 1, cells := 0, slots := 0, locals := 20 } : Room) s m #[(.ref t1), (.int (0 : Int32)), (.int (0 : Int32))] below meth c s₁ [] 0 0 := Stand.of_body Bd
  have e0 : s₁.heap = h0 := by rw [← hh, Bd.state]; rfl
  have N0 := Fr.nil n0
  have KP0 := Keep.refl h0 []
  refine own_go (Q := (OwnEnd s (fun v h L => v = some (.int (0 : Int32)) ∧ Fr n0 L ∧ h = h0) ({ frames := 1, cells := 0, slots := 0, locals := 20 } : Room).cells ({ frames := 1, cells := 0, slots := 0, locals := 20 } : Room).slots)) ?_
  refine own_back (fun t k => castTop (hn_ef m t1 (0 : Int32) (0 : Int32)) k) ?_
  show OwnGo p e below (s₁.setTop (mkF m 0 #[.val (.ref t1), .val (.int (0 : Int32)), .val (.int (0 : Int32))] [])) _
  refine own_back (fun t k => XS.aloadN X0.here hx rfl (hb hby hn_d0) rfl rfl k) ?_
  show OwnGo p e below (s₁.setTop (mkF m 1 #[.val (.ref t1), .val (.int (0 : Int32)), .val (.int (0 : Int32))] [(.ref t1)])) _
  refine own_back (fun t k => XS.iloadN X0.here hx rfl (hb hby hn_d1) rfl k) ?_
  show OwnGo p e below (s₁.setTop (mkF m 2 #[.val (.ref t1), .val (.int (0 : Int32)), .val (.int (0 : Int32))] [(.int (0 : Int32)), (.ref t1)])) _
  refine own_back (fun t k => XS.iloadN X0.here hx rfl (hb hby hn_d2) rfl k) ?_
  show OwnGo p e below (s₁.setTop (mkF m 3 #[.val (.ref t1), .val (.int (0 : Int32)), .val (.int (0 : Int32))] [(.int (0 : Int32)), (.int (0 : Int32)), (.ref t1)])) _
  obtain ⟨_, _, ⟨T373, L373, k373, n373⟩, -, X373, ⟨Lc373, hQ373, l373, y373, z373⟩, st373⟩ := Jvm.LawKit.callS X0 hx (y := (⟨"java/lang/StringCoding", "countPositives", "([BII)I"⟩ : MethodName)) hown (mvT hZ (hw _ (List.mem_of_getElem? (i := 72) rfl))) (mvT hZ (hw _ (List.mem_of_getElem? (i := 73) rfl))) (mvT hZ (hw _ (List.mem_of_getElem? (i := 70) rfl))) (mvT hZ (hw _ (List.mem_of_getElem? (i := 74) rfl))) (by decide) (own_backN (W := 0) (rm_cp l Z a0 hw [] t1 k1 h0 n0 Z0 V1 ) hZ (hw _ (List.mem_of_getElem? (i := 74) rfl)) (hw _ (List.mem_of_getElem? (i := 70) rfl)) (by decide) (by decide)) (g := (mkF m 3 #[.val (.ref t1), .val (.int (0 : Int32)), .val (.int (0 : Int32))] [(.int (0 : Int32)), (.int (0 : Int32)), (.ref t1)])) rfl (by rw [hml]; rfl) (argsL := [(.ref t1), (.int (0 : Int32)), (.int (0 : Int32))]) (rest := []) (lenOf hn_pd0 rfl) rfl (by show 2 * 0 + _ ≤ _; exact Nat.le_of_eq rfl) (hb hby hn_d3) (fun _ _ => ⟨rfl, e0, Nat.le_of_ble_eq_true rfl, Nat.le_of_ble_eq_true rfl⟩)
  dsimp only [Pt.U, Pt.locs, Pt.cells, Pt.slots] at X373 l373 y373 z373 st373 hQ373
  subst l373 y373 z373
  obtain ⟨rfl, N373q, hh373⟩ := hQ373
  refine own_back st373 ?_
  have N373 := Fr.app N0 N373q
  show OwnGo p e below (T373.setTop (mkF m 6 #[.val (.ref t1), .val (.int (0 : Int32)), .val (.int (0 : Int32))] [(.int (0 : Int32))])) _
  refine own_back (fun t k => XS.iloadN X373.here hx rfl (hb hby hn_d6) rfl k) ?_
  show OwnGo p e below (T373.setTop (mkF m 7 #[.val (.ref t1), .val (.int (0 : Int32)), .val (.int (0 : Int32))] [(.int (0 : Int32)), (.int (0 : Int32))])) _
  refine own_back (fun t k => XS.icmpYes X373.here hx rfl (pc0 := 7) (pc' := 14) rfl (hb hby hn_d7) rfl (Jvm.Free.XT.ii_eq_t (by decide)) (by decide) (by decide) k) ?_
  show OwnGo p e below (T373.setTop (mkF m 14 #[.val (.ref t1), .val (.int (0 : Int32)), .val (.int (0 : Int32))] [])) _
  refine own_back (fun t k => XS.iconst X373.here hx rfl (hb hby hn_d14) k) ?_
  show OwnGo p e below (T373.setTop (mkF m 15 #[.val (.ref t1), .val (.int (0 : Int32)), .val (.int (0 : Int32))] [(.int (0 : Int32))])) _
  refine own_retN X373 hx Bd.notSynchronized (t := .boolean) (z := (0 : Int32)) Bd.returns (by simp) rfl (hb hby hn_d15) hh373 (Nat.le_of_ble_eq_true rfl) (Nat.le_of_ble_eq_true rfl) ?_
  exact ⟨rfl, N373, rfl⟩
theorem eu_d0 : decode jdk_42_method_46_code 0 = .ok (.iload_n 0, 1) := by decide +kernel
theorem eu_d1 : decode jdk_42_method_46_code 1 = .ok (.iconst 1, 1) := by decide +kernel
theorem eu_d2 : decode jdk_42_method_46_code 2 = .ok (.if_icmp .ne 9, 3) := by decide +kernel
theorem eu_d11 : decode jdk_42_method_46_code 11 = .ok (.aload_n 1, 1) := by decide +kernel
theorem eu_d12 : decode jdk_42_method_46_code 12 = .ok (.iconst 0, 1) := by decide +kernel
theorem eu_d13 : decode jdk_42_method_46_code 13 = .ok (.aload_n 1, 1) := by decide +kernel
theorem eu_d14 : decode jdk_42_method_46_code 14 = .ok (.arraylength, 1) := by decide +kernel
theorem eu_d15 : decode jdk_42_method_46_code 15 = .ok (.invokestatic 128, 3) := by decide +kernel
theorem eu_d18 : decode jdk_42_method_46_code 18 = .ok (.ifCond .ne 11, 3) := by decide +kernel
theorem eu_d21 : decode jdk_42_method_46_code 21 = .ok (.aload_n 1, 1) := by decide +kernel
theorem eu_d22 : decode jdk_42_method_46_code 22 = .ok (.invokevirtual 279, 3) := by decide +kernel
theorem eu_d25 : decode jdk_42_method_46_code 25 = .ok (.checkcast 280, 3) := by decide +kernel
theorem eu_d28 : decode jdk_42_method_46_code 28 = .ok (.areturn, 1) := by decide +kernel
theorem eu_pn : plainName "java/lang/String" = true := by first | (simp [plainName, overriddenIn]; done) | decide +kernel
theorem eu_pd0 : parseMethodDescriptor "([BII)Z" = some ⟨[(.array .byte), .int, .int], some .boolean⟩ := by decide +kernel
theorem eu_ef (m : MethodId) (x0 : Int32) (x1 : Addr) (x2 : Int32) : entryFrame m #[(.int x0), (.ref x1), (.int x2)] 9 = mkF m 0 #[.val (.int x0), .val (.ref x1), .val (.int x2), .unset, .unset, .unset, .unset, .unset, .unset] [] := by first | (simp [entryFrame, mkF, argsToLocals, Value.category]; done) | rfl
set_option maxRecDepth 65536 in
set_option maxHeartbeats 40000000 in
theorem rm_eu (l : Launch) (Z : State) (a0 : Array Value) (hw : ∀ d ∈ tables_1, d.before a0 Z = true) (ws : List Jvm.Cond) (t1 : Addr) (k1 : ClassId) (h0 : Heap) (n0 : Nat) (Z0 : n0 ≤ h0.size) (OL : Old Z n0 h0) (V1 : Arv Z h0 t1 k1 .byte (0 : Int32) [] (.int 0)) (X1 : Exa Z h0 t1 "[B") :
    MetFree l (⟨"java/lang/String", "encodeUTF8", "(B[BZ)[B"⟩ : MethodName) (head1 (Jvm.Cond.code (⟨"java/lang/String", "encodeUTF8", "(B[BZ)[B"⟩ : MethodName) jdk_42_method_46_code 9 (some (.array .byte)) :: ws) ({ frames := 2, cells := 2, slots := 8, locals := 90 } : Room)) (fun a U => a = #[(.int (0 : Int32)), (.ref t1), (.int (1 : Int32))] ∧ Z.Warmed39 U.vm ∧ U.heap = h0) (fun _ _ _ _ _ => True) (fun _ U o U' => OwnEnd U (fun v h L => ∃ b, v = some (.ref b) ∧ Fr n0 L ∧ Ext h0 h) ({ frames := 2, cells := 2, slots := 8, locals := 90 } : Room).cells ({ frames := 2, cells := 2, slots := 8, locals := 90 } : Room).slots o U') := by
  refine MetFree.of_bodySF (plainFor_of_name eu_pn) hisR ?_
  intro p e s m args below meth c s₁ Bd hml0 hP hK
  obtain ⟨rfl, hZ, hh⟩ := hP
  have hx := Bd.exec
  have hby := Bd.bytes
  have hml : c.maxLocals = 9 := hml0
  have hown : s.vm.findClass "java/lang/String" = some m.cls := findClass_of_methodNamed Bd.named
  have hnm := (name_of_methodNamed Bd.named Bd.method).1
  have X0 : Stand p l e ({ frames := 2, cells := 2, slots := 8, locals := 90 } : Room) s m #[(.int (0 : Int32)), (.ref t1), (.int (1 : Int32))] below meth c s₁ [] 0 0 := Stand.of_body Bd
  have e0 : s₁.heap = h0 := by rw [← hh, Bd.state]; rfl
  have N0 := Fr.nil n0
  have KP0 := Keep.refl h0 []
  refine own_go (Q := (OwnEnd s (fun v h L => ∃ b, v = some (.ref b) ∧ Fr n0 L ∧ Ext h0 h) ({ frames := 2, cells := 2, slots := 8, locals := 90 } : Room).cells ({ frames := 2, cells := 2, slots := 8, locals := 90 } : Room).slots)) ?_
  refine own_back (fun t k => castTop (eu_ef m (0 : Int32) t1 (1 : Int32)) k) ?_
  show OwnGo p e below (s₁.setTop (mkF m 0 #[.val (.int (0 : Int32)), .val (.ref t1), .val (.int (1 : Int32)), .unset, .unset, .unset, .unset, .unset, .unset] [])) _
  refine own_back (fun t k => XS.iloadN X0.here hx rfl (hb hby eu_d0) rfl k) ?_
  refine own_back (fun t k => XS.iconst X0.here hx rfl (hb hby eu_d1) k) ?_
  refine own_back (fun t k => XS.icmpYes X0.here hx rfl (pc0 := 2) (pc' := 11) rfl (hb hby eu_d2) rfl (Jvm.Free.XT.ii_ne_t (by decide)) (by decide) (by decide) k) ?_
  show OwnGo p e below (s₁.setTop (mkF m 11 #[.val (.int (0 : Int32)), .val (.ref t1), .val (.int (1 : Int32)), .unset, .unset, .unset, .unset, .unset, .unset] [])) _
  refine own_back (fun t k => XS.aloadN X0.here hx rfl (hb hby eu_d11) rfl rfl k) ?_
  show OwnGo p e below (s₁.setTop (mkF m 12 #[.val (.int (0 : Int32)), .val (.ref t1), .val (.int (1 : Int32)), .unset, .unset, .unset, .unset, .unset, .unset] [(.ref t1)])) _
  refine own_back (fun t k => XS.iconst X0.here hx rfl (hb hby eu_d12) k) ?_
  refine own_back (fun t k => XS.aloadN X0.here hx rfl (hb hby eu_d13) rfl rfl k) ?_
  obtain ⟨c374, A374, q374, S374, M374, H374, U374⟩ := id V1
  refine own_back (fun t k => X0.arraylength hx (own_hat e0 A374.1) (State.isArrayOf_alike hZ.alike A374.2.1) (g := (mkF m 14 #[.val (.int (0 : Int32)), .val (.ref t1), .val (.int (1 : Int32)), .unset, .unset, .unset, .unset, .unset, .unset] [(.ref t1), (.int (0 : Int32)), (.ref t1)])) rfl rfl (hb hby eu_d14) t k) ?_
  rw [len_of S374 M374]
  show OwnGo p e below (s₁.setTop (mkF m 15 #[.val (.int (0 : Int32)), .val (.ref t1), .val (.int (1 : Int32)), .unset, .unset, .unset, .unset, .unset, .unset] [(.int (0 : Int32)), (.int (0 : Int32)), (.ref t1)])) _
  obtain ⟨_, _, ⟨T375, L375, k375, n375⟩, -, X375, ⟨Lc375, hQ375, l375, y375, z375⟩, st375⟩ := Jvm.LawKit.callS X0 hx (y := (⟨"java/lang/StringCoding", "hasNegatives", "([BII)Z"⟩ : MethodName)) hown (mvT hZ (hw _ (List.mem_of_getElem? (i := 68) rfl))) (mvT hZ (hw _ (List.mem_of_getElem? (i := 69) rfl))) (mvT hZ (hw _ (List.mem_of_getElem? (i := 70) rfl))) (mvT hZ (hw _ (List.mem_of_getElem? (i := 71) rfl))) (by decide) (own_backN (W := 0) (rm_hn l Z a0 hw [] t1 k1 h0 n0 Z0 V1 ) hZ (hw _ (List.mem_of_getElem? (i := 71) rfl)) (hw _ (List.mem_of_getElem? (i := 70) rfl)) (by decide) (by decide)) (g := (mkF m 15 #[.val (.int (0 : Int32)), .val (.ref t1), .val (.int (1 : Int32)), .unset, .unset, .unset, .unset, .unset, .unset] [(.int (0 : Int32)), (.int (0 : Int32)), (.ref t1)])) rfl (by rw [hml]; rfl) (argsL := [(.ref t1), (.int (0 : Int32)), (.int (0 : Int32))]) (rest := []) (lenOf eu_pd0 rfl) rfl (by show 2 * 0 + _ ≤ _; exact Nat.le_of_eq rfl) (hb hby eu_d15) (fun _ _ => ⟨rfl, e0, Nat.le_of_ble_eq_true rfl, Nat.le_of_ble_eq_true rfl⟩)
  dsimp only [Pt.U, Pt.locs, Pt.cells, Pt.slots] at X375 l375 y375 z375 st375 hQ375
  subst l375 y375 z375
  obtain ⟨rfl, N375q, hh375⟩ := hQ375
  refine own_back st375 ?_
  have N375 := Fr.app N0 N375q
  show OwnGo p e below (T375.setTop (mkF m 18 #[.val (.int (0 : Int32)), .val (.ref t1), .val (.int (1 : Int32)), .unset, .unset, .unset, .unset, .unset, .unset] [(.int (0 : Int32))])) _
  refine own_back (fun t k => XS.ifNo X375.here hx rfl (hb hby eu_d18) rfl (Jvm.Free.XT.i0_ne_f (by decide)) k) ?_
  show OwnGo p e below (T375.setTop (mkF m 21 #[.val (.int (0 : Int32)), .val (.ref t1), .val (.int (1 : Int32)), .unset, .unset, .unset, .unset, .unset, .unset] [])) _
  refine own_back (fun t k => XS.aloadN X375.here hx rfl (hb hby eu_d21) rfl rfl k) ?_
  obtain ⟨cv, Av, qv, Sv, Mv, Hv, Uv⟩ := id V1
  obtain ⟨T376, h376, X376, e376, E376, A376, EX376, st376⟩ := cloneA X375 hx hZ hown (hw _ (List.mem_of_getElem? (i := 75) rfl)) (hw _ (List.mem_of_getElem? (i := 76) rfl)) (hw _ (List.mem_of_getElem? (i := 80) rfl)) (hw _ (List.mem_of_getElem? (i := 78) rfl)) (hw _ (List.mem_of_getElem? (i := 79) rfl)) (hw _ (List.mem_of_getElem? (i := 81) rfl)) hh375 Av X1 (own_fitB V1 Av.1) (g := (mkF m 22 #[.val (.int (0 : Int32)), .val (.ref t1), .val (.int (1 : Int32)), .unset, .unset, .unset, .unset, .unset, .unset] [(.ref t1)])) rfl (by rw [hml]; rfl) rfl (hb hby eu_d22) (by decide) (W := 0) (cap := 1) (by show 2 * 0 + _ ≤ _; exact Nat.le_of_eq rfl) (by decide) (by rw [Sv]; decide) (Nat.le_of_ble_eq_true rfl) (Nat.le_of_ble_eq_true rfl)
  obtain ⟨b376, g376⟩ : ∃ z, z = h0.size := ⟨_, rfl⟩
  have ge377 : n0 ≤ b376 := Nat.le_trans Z0 (Nat.le_of_eq g376.symm)
  have sz378 : h0.size ≤ b376 := Nat.le_trans KP0.1 (Nat.le_of_eq g376.symm)
  rw [← g376] at A376 EX376 st376
  have O379 := OL.ext E376
  have KP380 := KP0.ext E376
  have Zs381 := Nat.le_trans Z0 E376.1
  have f382 := V1.ext E376
  refine own_back st376 ?_
  show OwnGo p e below (T376.setTop (mkF m 25 #[.val (.int (0 : Int32)), .val (.ref t1), .val (.int (1 : Int32)), .unset, .unset, .unset, .unset, .unset, .unset] [(.ref b376)])) _
  obtain ⟨T383, X383, e383, st383⟩ := castY X376 hx hZ hown (hw _ (List.mem_of_getElem? (i := 82) rfl)) e376 (Ins.self EX376) (g := (mkF m 25 #[.val (.int (0 : Int32)), .val (.ref t1), .val (.int (1 : Int32)), .unset, .unset, .unset, .unset, .unset, .unset] [(.ref b376)])) rfl rfl (hb hby eu_d25)
  refine own_back st383 ?_
  refine own_retA X383 hx Bd.notSynchronized Bd.returns rfl rfl (hb hby eu_d28) e383 (Nat.le_of_ble_eq_true rfl) (Nat.le_of_ble_eq_true rfl) ?_
  exact ⟨_, rfl, N375, own_ext KP380⟩
theorem enc_d0 : decode jdk_42_method_18_code 0 = .ok (.aload_n 0, 1) := by decide +kernel
theorem enc_d1 : decode jdk_42_method_18_code 1 = .ok (.getstatic 86, 3) := by decide +kernel
theorem enc_d4 : decode jdk_42_method_18_code 4 = .ok (.if_acmp .ne 10, 3) := by decide +kernel
theorem enc_d7 : decode jdk_42_method_18_code 7 = .ok (.iload_n 1, 1) := by decide +kernel
theorem enc_d8 : decode jdk_42_method_18_code 8 = .ok (.aload_n 2, 1) := by decide +kernel
theorem enc_d9 : decode jdk_42_method_18_code 9 = .ok (.iconst 1, 1) := by decide +kernel
theorem enc_d10 : decode jdk_42_method_18_code 10 = .ok (.invokestatic 252, 3) := by decide +kernel
theorem enc_d13 : decode jdk_42_method_18_code 13 = .ok (.areturn, 1) := by decide +kernel
theorem enc_pn : plainName "java/lang/String" = true := by first | (simp [plainName, overriddenIn]; done) | decide +kernel
theorem enc_pd0 : parseMethodDescriptor "(B[BZ)[B" = some ⟨[.byte, (.array .byte), .boolean], some (.array .byte)⟩ := by decide +kernel
theorem enc_ef (m : MethodId) (x0 : Addr) (x1 : Int32) (x2 : Addr) : entryFrame m #[(.ref x0), (.int x1), (.ref x2)] 3 = mkF m 0 #[.val (.ref x0), .val (.int x1), .val (.ref x2)] [] := by first | (simp [entryFrame, mkF, argsToLocals, Value.category]; done) | rfl
set_option maxRecDepth 65536 in
set_option maxHeartbeats 40000000 in
theorem rm_enc (l : Launch) (Z : State) (a0 : Array Value) (hw : ∀ d ∈ tables_1, d.before a0 Z = true) (ws : List Jvm.Cond) (t1 : Addr) (k1 : ClassId) (w8 : Addr) (h0 : Heap) (n0 : Nat) (Z0 : n0 ≤ h0.size) (OL : Old Z n0 h0) (V1 : Arv Z h0 t1 k1 .byte (0 : Int32) [] (.int 0)) (X1 : Exa Z h0 t1 "[B") (SI : Sta Z Z.heap "sun/nio/cs/UTF_8" "INSTANCE" "Lsun/nio/cs/UTF_8;" (.ref w8)) :
    MetFree l (⟨"java/lang/String", "encode", "(Ljava/nio/charset/Charset;B[B)[B"⟩ : MethodName) (head1 (Jvm.Cond.code (⟨"java/lang/String", "encode", "(Ljava/nio/charset/Charset;B[B)[B"⟩ : MethodName) jdk_42_method_18_code 3 (some (.array .byte)) :: ws) ({ frames := 3, cells := 2, slots := 8, locals := 115 } : Room)) (fun a U => a = #[(.ref w8), (.int (0 : Int32)), (.ref t1)] ∧ Z.Warmed39 U.vm ∧ U.heap = h0) (fun _ _ _ _ _ => True) (fun _ U o U' => OwnEnd U (fun v h L => ∃ b, v = some (.ref b) ∧ Fr n0 L ∧ Ext h0 h) ({ frames := 3, cells := 2, slots := 8, locals := 115 } : Room).cells ({ frames := 3, cells := 2, slots := 8, locals := 115 } : Room).slots o U') := by
  refine MetFree.of_bodySF (plainFor_of_name enc_pn) hisR ?_
  intro p e s m args below meth c s₁ Bd hml0 hP hK
  obtain ⟨rfl, hZ, hh⟩ := hP
  have hx := Bd.exec
  have hby := Bd.bytes
  have hml : c.maxLocals = 3 := hml0
  have hown : s.vm.findClass "java/lang/String" = some m.cls := findClass_of_methodNamed Bd.named
  have hnm := (name_of_methodNamed Bd.named Bd.method).1
  have X0 : Stand p l e ({ frames := 3, cells := 2, slots := 8, locals := 115 } : Room) s m #[(.ref w8), (.int (0 : Int32)), (.ref t1)] below meth c s₁ [] 0 0 := Stand.of_body Bd
  have e0 : s₁.heap = h0 := by rw [← hh, Bd.state]; rfl
  have N0 := Fr.nil n0
  have KP0 := Keep.refl h0 []
  refine own_go (Q := (OwnEnd s (fun v h L => ∃ b, v = some (.ref b) ∧ Fr n0 L ∧ Ext h0 h) ({ frames := 3, cells := 2, slots := 8, locals := 115 } : Room).cells ({ frames := 3, cells := 2, slots := 8, locals := 115 } : Room).slots)) ?_
  refine own_back (fun t k => castTop (enc_ef m w8 (0 : Int32) t1) k) ?_
  show OwnGo p e below (s₁.setTop (mkF m 0 #[.val (.ref w8), .val (.int (0 : Int32)), .val (.ref t1)] [])) _
  refine own_back (fun t k => XS.aloadN X0.here hx rfl (hb hby enc_d0) rfl rfl k) ?_
  show OwnGo p e below (s₁.setTop (mkF m 1 #[.val (.ref w8), .val (.int (0 : Int32)), .val (.ref t1)] [(.ref w8)])) _
  obtain ⟨T384, X384, e384, st384⟩ := getS2 X0 hx hZ hown (host := "") (Or.inl (hw _ (List.mem_of_getElem? (i := 63) rfl))) Via.refl e0 (SI.ext OL.2) (g := (mkF m 1 #[.val (.ref w8), .val (.int (0 : Int32)), .val (.ref t1)] [(.ref w8)])) rfl (hb hby enc_d1)
  refine own_back st384 ?_
  show OwnGo p e below (T384.setTop (mkF m 4 #[.val (.ref w8), .val (.int (0 : Int32)), .val (.ref t1)] [(.ref w8), (.ref w8)])) _
  refine own_back (fun t k => Jvm.RoadKit.acmp (g := (mkF m 4 #[.val (.ref w8), .val (.int (0 : Int32)), .val (.ref t1)] [(.ref w8), (.ref w8)])) X384 hx rfl rfl rfl (pc0 := 4) (pc' := 7) (same := true) rfl (hb hby enc_d4) rfl (decide_eq_true rfl) (by decide) (by decide) k) ?_
  show OwnGo p e below (T384.setTop (mkF m 7 #[.val (.ref w8), .val (.int (0 : Int32)), .val (.ref t1)] [])) _
  refine own_back (fun t k => XS.iloadN X384.here hx rfl (hb hby enc_d7) rfl k) ?_
  show OwnGo p e below (T384.setTop (mkF m 8 #[.val (.ref w8), .val (.int (0 : Int32)), .val (.ref t1)] [(.int (0 : Int32))])) _
  refine own_back (fun t k => XS.aloadN X384.here hx rfl (hb hby enc_d8) rfl rfl k) ?_
  show OwnGo p e below (T384.setTop (mkF m 9 #[.val (.ref w8), .val (.int (0 : Int32)), .val (.ref t1)] [(.ref t1), (.int (0 : Int32))])) _
  refine own_back (fun t k => XS.iconst X384.here hx rfl (hb hby enc_d9) k) ?_
  show OwnGo p e below (T384.setTop (mkF m 10 #[.val (.ref w8), .val (.int (0 : Int32)), .val (.ref t1)] [(.int (1 : Int32)), (.ref t1), (.int (0 : Int32))])) _
  obtain ⟨_, _, ⟨T385, L385, k385, n385⟩, -, X385, ⟨Lc385, hQ385, l385, y385, z385⟩, st385⟩ := Jvm.LawKit.callS X384 hx (y := (⟨"java/lang/String", "encodeUTF8", "(B[BZ)[B"⟩ : MethodName)) hown (mvT hZ (hw _ (List.mem_of_getElem? (i := 65) rfl))) (mvT hZ (hw _ (List.mem_of_getElem? (i := 66) rfl))) (mvT hZ (hw _ (List.mem_of_getElem? (i := 6) rfl))) (mvT hZ (hw _ (List.mem_of_getElem? (i := 67) rfl))) (by decide) (own_backN (W := 0) (rm_eu l Z a0 hw [] t1 k1 h0 n0 Z0 OL V1 X1 ) hZ (hw _ (List.mem_of_getElem? (i := 67) rfl)) (hw _ (List.mem_of_getElem? (i := 6) rfl)) (by decide) (by decide)) (g := (mkF m 10 #[.val (.ref w8), .val (.int (0 : Int32)), .val (.ref t1)] [(.int (1 : Int32)), (.ref t1), (.int (0 : Int32))])) rfl (by rw [hml]; rfl) (argsL := [(.int (0 : Int32)), (.ref t1), (.int (1 : Int32))]) (rest := []) (lenOf enc_pd0 rfl) rfl (by show 2 * 0 + _ ≤ _; exact Nat.le_of_eq rfl) (hb hby enc_d10) (fun _ _ => ⟨rfl, e384, Nat.le_of_ble_eq_true rfl, Nat.le_of_ble_eq_true rfl⟩)
  dsimp only [Pt.U, Pt.locs, Pt.cells, Pt.slots] at X385 l385 y385 z385 st385 hQ385
  subst l385 y385 z385
  obtain ⟨bq385, rfl, N385q, E385⟩ := hQ385
  refine own_back st385 ?_
  have N385 := Fr.app N0 N385q
  have O386 := OL.ext E385
  have KP387 := KP0.ext E385
  have Zs388 := Nat.le_trans Z0 E385.1
  have f389 := V1.ext E385
  show OwnGo p e below (T385.setTop (mkF m 13 #[.val (.ref w8), .val (.int (0 : Int32)), .val (.ref t1)] [(.ref bq385)])) _
  refine own_retA X385 hx Bd.notSynchronized Bd.returns rfl rfl (hb hby enc_d13) rfl (Nat.le_of_ble_eq_true rfl) (Nat.le_of_ble_eq_true rfl) ?_
  exact ⟨_, rfl, N385, own_ext KP387⟩
theorem cpn_d0 : decode jdk_123_method_3_code 0 = .ok (.iload_n 1, 1) := by decide +kernel
theorem cpn_d1 : decode jdk_123_method_3_code 1 = .ok (.iload_n 2, 1) := by decide +kernel
theorem cpn_d2 : decode jdk_123_method_3_code 2 = .ok (.iadd, 1) := by decide +kernel
theorem cpn_d3 : decode jdk_123_method_3_code 3 = .ok (.istore_n 3, 1) := by decide +kernel
theorem cpn_d4 : decode jdk_123_method_3_code 4 = .ok (.iload_n 1, 1) := by decide +kernel
theorem cpn_d5 : decode jdk_123_method_3_code 5 = .ok (.istore 4, 2) := by decide +kernel
theorem cpn_d7 : decode jdk_123_method_3_code 7 = .ok (.iload 4, 2) := by decide +kernel
theorem cpn_d9 : decode jdk_123_method_3_code 9 = .ok (.iload_n 3, 1) := by decide +kernel
theorem cpn_d10 : decode jdk_123_method_3_code 10 = .ok (.if_icmp .ge 21, 3) := by decide +kernel
theorem cpn_d13 : decode jdk_123_method_3_code 13 = .ok (.aload_n 0, 1) := by decide +kernel
theorem cpn_d14 : decode jdk_123_method_3_code 14 = .ok (.iload 4, 2) := by decide +kernel
theorem cpn_d16 : decode jdk_123_method_3_code 16 = .ok (.baload, 1) := by decide +kernel
theorem cpn_d17 : decode jdk_123_method_3_code 17 = .ok (.ifCond .ge 8, 3) := by decide +kernel
theorem cpn_d20 : decode jdk_123_method_3_code 20 = .ok (.iload 4, 2) := by decide +kernel
theorem cpn_d22 : decode jdk_123_method_3_code 22 = .ok (.iload_n 1, 1) := by decide +kernel
theorem cpn_d23 : decode jdk_123_method_3_code 23 = .ok (.isub, 1) := by decide +kernel
theorem cpn_d24 : decode jdk_123_method_3_code 24 = .ok (.ireturn, 1) := by decide +kernel
theorem cpn_pn : plainName "java/lang/StringCoding" = true := by first | (simp [plainName, overriddenIn]; done) | decide +kernel
theorem cpn_ef (m : MethodId) (x0 : Addr) (x1 : Int32) (x2 : Int32) : entryFrame m #[(.ref x0), (.int x1), (.int x2)] 5 = mkF m 0 #[.val (.ref x0), .val (.int x1), .val (.int x2), .unset, .unset] [] := by first | (simp [entryFrame, mkF, argsToLocals, Value.category]; done) | rfl
set_option maxRecDepth 65536 in
set_option maxHeartbeats 40000000 in
theorem rm_cpn (l : Launch) (Z : State) (a0 : Array Value) (hw : ∀ d ∈ tables_1, d.before a0 Z = true) (ws : List Jvm.Cond) (t1 : Addr) (k1 : ClassId) (y0 : Int32) (h0 : Heap) (n0 : Nat) (Z0 : n0 ≤ h0.size) (V1 : Arv Z h0 t1 k1 .byte (1 : Int32) [.int y0] (.int 0)) (s0 : y0 < 0) :
    MetFree l (⟨"java/lang/StringCoding", "countPositives", "([BII)I"⟩ : MethodName) (head1 (Jvm.Cond.code (⟨"java/lang/StringCoding", "countPositives", "([BII)I"⟩ : MethodName) jdk_123_method_3_code 5 (some .int) :: ws) ({ frames := 0, cells := 0, slots := 0, locals := 0 } : Room)) (fun a U => a = #[(.ref t1), (.int (0 : Int32)), (.int (1 : Int32))] ∧ Z.Warmed39 U.vm ∧ U.heap = h0) (fun _ _ _ _ _ => True) (fun _ U o U' => OwnEnd U (fun v h L => v = some (.int (0 : Int32)) ∧ Fr n0 L ∧ h = h0) ({ frames := 0, cells := 0, slots := 0, locals := 0 } : Room).cells ({ frames := 0, cells := 0, slots := 0, locals := 0 } : Room).slots o U') := by
  refine MetFree.of_bodySF (plainFor_of_name cpn_pn) hisR ?_
  intro p e s m args below meth c s₁ Bd hml0 hP hK
  obtain ⟨rfl, hZ, hh⟩ := hP
  have hx := Bd.exec
  have hby := Bd.bytes
  have hml : c.maxLocals = 5 := hml0
  have hown : s.vm.findClass "java/lang/StringCoding" = some m.cls := findClass_of_methodNamed Bd.named
  have hnm := (name_of_methodNamed Bd.named Bd.method).1
  have X0 : Stand p l e ({ frames := 0, cells := 0, slots := 0, locals := 0 } : Room) s m #[(.ref t1), (.int (0 : Int32)), (.int (1 : Int32))] below meth c s₁ [] 0 0 := Stand.of_body Bd
  have e0 : s₁.heap = h0 := by rw [← hh, Bd.state]; rfl
  have N0 := Fr.nil n0
  have KP0 := Keep.refl h0 []
  refine own_go (Q := (OwnEnd s (fun v h L => v = some (.int (0 : Int32)) ∧ Fr n0 L ∧ h = h0) ({ frames := 0, cells := 0, slots := 0, locals := 0 } : Room).cells ({ frames := 0, cells := 0, slots := 0, locals := 0 } : Room).slots)) ?_
  refine own_back (fun t k => castTop (cpn_ef m t1 (0 : Int32) (1 : Int32)) k) ?_
  show OwnGo p e below (s₁.setTop (mkF m 0 #[.val (.ref t1), .val (.int (0 : Int32)), .val (.int (1 : Int32)), .unset, .unset] [])) _
  refine own_back (fun t k => XS.iloadN X0.here hx rfl (hb hby cpn_d0) rfl k) ?_
  show OwnGo p e below (s₁.setTop (mkF m 1 #[.val (.ref t1), .val (.int (0 : Int32)), .val (.int (1 : Int32)), .unset, .unset] [(.int (0 : Int32))])) _
  refine own_back (fun t k => XS.iloadN X0.here hx rfl (hb hby cpn_d1) rfl k) ?_
  show OwnGo p e below (s₁.setTop (mkF m 2 #[.val (.ref t1), .val (.int (0 : Int32)), .val (.int (1 : Int32)), .unset, .unset] [(.int (1 : Int32)), (.int (0 : Int32))])) _
  refine own_back (fun t k => XS.iadd X0.here hx rfl (hb hby cpn_d2) rfl k) ?_
  show OwnGo p e below (s₁.setTop (mkF m 3 #[.val (.ref t1), .val (.int (0 : Int32)), .val (.int (1 : Int32)), .unset, .unset] [(.int (1 : Int32))])) _
  refine own_back (fun t k => XS.istoreN X0.here hx rfl (hb hby cpn_d3) rfl (l' := #[.val (.ref t1), .val (.int (0 : Int32)), .val (.int (1 : Int32)), .val (.int (1 : Int32)), .unset]) rfl k) ?_
  show OwnGo p e below (s₁.setTop (mkF m 4 #[.val (.ref t1), .val (.int (0 : Int32)), .val (.int (1 : Int32)), .val (.int (1 : Int32)), .unset] [])) _
  refine own_back (fun t k => XS.iloadN X0.here hx rfl (hb hby cpn_d4) rfl k) ?_
  show OwnGo p e below (s₁.setTop (mkF m 5 #[.val (.ref t1), .val (.int (0 : Int32)), .val (.int (1 : Int32)), .val (.int (1 : Int32)), .unset] [(.int (0 : Int32))])) _
  refine own_back (fun t k => XS.istore X0.here hx rfl (hb hby cpn_d5) rfl (l' := #[.val (.ref t1), .val (.int (0 : Int32)), .val (.int (1 : Int32)), .val (.int (1 : Int32)), .val (.int (0 : Int32))]) rfl k) ?_
  show OwnGo p e below (s₁.setTop (mkF m 7 #[.val (.ref t1), .val (.int (0 : Int32)), .val (.int (1 : Int32)), .val (.int (1 : Int32)), .val (.int (0 : Int32))] [])) _
  refine own_back (fun t k => XS.iload X0.here hx rfl (hb hby cpn_d7) rfl k) ?_
  show OwnGo p e below (s₁.setTop (mkF m 9 #[.val (.ref t1), .val (.int (0 : Int32)), .val (.int (1 : Int32)), .val (.int (1 : Int32)), .val (.int (0 : Int32))] [(.int (0 : Int32))])) _
  refine own_back (fun t k => XS.iloadN X0.here hx rfl (hb hby cpn_d9) rfl k) ?_
  show OwnGo p e below (s₁.setTop (mkF m 10 #[.val (.ref t1), .val (.int (0 : Int32)), .val (.int (1 : Int32)), .val (.int (1 : Int32)), .val (.int (0 : Int32))] [(.int (1 : Int32)), (.int (0 : Int32))])) _
  refine own_back (fun t k => XS.icmpNo X0.here hx rfl (hb hby cpn_d10) rfl (Jvm.Free.XT.ii_ge_f (by decide)) k) ?_
  show OwnGo p e below (s₁.setTop (mkF m 13 #[.val (.ref t1), .val (.int (0 : Int32)), .val (.int (1 : Int32)), .val (.int (1 : Int32)), .val (.int (0 : Int32))] [])) _
  refine own_back (fun t k => XS.aloadN X0.here hx rfl (hb hby cpn_d13) rfl rfl k) ?_
  show OwnGo p e below (s₁.setTop (mkF m 14 #[.val (.ref t1), .val (.int (0 : Int32)), .val (.int (1 : Int32)), .val (.int (1 : Int32)), .val (.int (0 : Int32))] [(.ref t1)])) _
  refine own_back (fun t k => XS.iload X0.here hx rfl (hb hby cpn_d14) rfl k) ?_
  show OwnGo p e below (s₁.setTop (mkF m 16 #[.val (.ref t1), .val (.int (0 : Int32)), .val (.int (1 : Int32)), .val (.int (1 : Int32)), .val (.int (0 : Int32))] [(.int (0 : Int32)), (.ref t1)])) _
  obtain ⟨c390, A390, q390, S390, M390, H390, U390⟩ := id V1
  have ib391 : ¬ ((0 : Int32) < 0 ∨ c390.slots.size ≤ ((0 : Int32)).toNatClampNeg) := (inb_of S390 ⟨by decide, by decide⟩)
  refine own_back (fun t k => X0.baloadBytes hx (j := (0 : Int32)) (v := (.int y0)) (own_hat e0 A390.1) (State.isArrayOf_alike hZ.alike A390.2.1) A390.2.2 ib391 (H390.at ib391 rfl) (g := (mkF m 16 #[.val (.ref t1), .val (.int (0 : Int32)), .val (.int (1 : Int32)), .val (.int (1 : Int32)), .val (.int (0 : Int32))] [(.int (0 : Int32)), (.ref t1)])) rfl rfl (hb hby cpn_d16) t k) ?_
  show OwnGo p e below (s₁.setTop (mkF m 17 #[.val (.ref t1), .val (.int (0 : Int32)), .val (.int (1 : Int32)), .val (.int (1 : Int32)), .val (.int (0 : Int32))] [(.int y0)])) _
  refine own_back (fun t k => XS.ifNo X0.here hx rfl (hb hby cpn_d17) rfl (Jvm.Free.XT.i0_ge_f s0) k) ?_
  show OwnGo p e below (s₁.setTop (mkF m 20 #[.val (.ref t1), .val (.int (0 : Int32)), .val (.int (1 : Int32)), .val (.int (1 : Int32)), .val (.int (0 : Int32))] [])) _
  refine own_back (fun t k => XS.iload X0.here hx rfl (hb hby cpn_d20) rfl k) ?_
  show OwnGo p e below (s₁.setTop (mkF m 22 #[.val (.ref t1), .val (.int (0 : Int32)), .val (.int (1 : Int32)), .val (.int (1 : Int32)), .val (.int (0 : Int32))] [(.int (0 : Int32))])) _
  refine own_back (fun t k => XS.iloadN X0.here hx rfl (hb hby cpn_d22) rfl k) ?_
  show OwnGo p e below (s₁.setTop (mkF m 23 #[.val (.ref t1), .val (.int (0 : Int32)), .val (.int (1 : Int32)), .val (.int (1 : Int32)), .val (.int (0 : Int32))] [(.int (0 : Int32)), (.int (0 : Int32))])) _
  refine own_back (fun t k => XS.isub X0.here hx rfl (hb hby cpn_d23) rfl k) ?_
  show OwnGo p e below (s₁.setTop (mkF m 24 #[.val (.ref t1), .val (.int (0 : Int32)), .val (.int (1 : Int32)), .val (.int (1 : Int32)), .val (.int (0 : Int32))] [(.int (0 : Int32))])) _
  refine own_retI X0 hx Bd.notSynchronized Bd.returns (hb hby cpn_d24) e0 (Nat.le_of_ble_eq_true rfl) (Nat.le_of_ble_eq_true rfl) ?_
  exact ⟨rfl, N0, rfl⟩
theorem hnn_d0 : decode jdk_123_method_2_code 0 = .ok (.aload_n 0, 1) := by decide +kernel
theorem hnn_d1 : decode jdk_123_method_2_code 1 = .ok (.iload_n 1, 1) := by decide +kernel
theorem hnn_d2 : decode jdk_123_method_2_code 2 = .ok (.iload_n 2, 1) := by decide +kernel
theorem hnn_d3 : decode jdk_123_method_2_code 3 = .ok (.invokestatic 7, 3) := by decide +kernel
theorem hnn_d6 : decode jdk_123_method_2_code 6 = .ok (.iload_n 2, 1) := by decide +kernel
theorem hnn_d7 : decode jdk_123_method_2_code 7 = .ok (.if_icmp .eq 7, 3) := by decide +kernel
theorem hnn_d10 : decode jdk_123_method_2_code 10 = .ok (.iconst 1, 1) := by decide +kernel
theorem hnn_d11 : decode jdk_123_method_2_code 11 = .ok (.goto 4, 3) := by decide +kernel
theorem hnn_d15 : decode jdk_123_method_2_code 15 = .ok (.ireturn, 1) := by decide +kernel
theorem hnn_pn : plainName "java/lang/StringCoding" = true := by first | (simp [plainName, overriddenIn]; done) | decide +kernel
theorem hnn_pd0 : parseMethodDescriptor "([BII)I" = some ⟨[(.array .byte), .int, .int], some .int⟩ := by decide +kernel
theorem hnn_ef (m : MethodId) (x0 : Addr) (x1 : Int32) (x2 : Int32) : entryFrame m #[(.ref x0), (.int x1), (.int x2)] 3 = mkF m 0 #[.val (.ref x0), .val (.int x1), .val (.int x2)] [] := by first | (simp [entryFrame, mkF, argsToLocals, Value.category]; done) | rfl
set_option maxRecDepth 65536 in
set_option maxHeartbeats 40000000 in
theorem rm_hnn (l : Launch) (Z : State) (a0 : Array Value) (hw : ∀ d ∈ tables_1, d.before a0 Z = true) (ws : List Jvm.Cond) (t1 : Addr) (k1 : ClassId) (y0 : Int32) (h0 : Heap) (n0 : Nat) (Z0 : n0 ≤ h0.size) (V1 : Arv Z h0 t1 k1 .byte (1 : Int32) [.int y0] (.int 0)) (s0 : y0 < 0) :
    MetFree l (⟨"java/lang/StringCoding", "hasNegatives", "([BII)Z"⟩ : MethodName) (head1 (Jvm.Cond.code (⟨"java/lang/StringCoding", "hasNegatives", "([BII)Z"⟩ : MethodName) jdk_123_method_2_code 3 (some .boolean) :: ws) ({ frames := 1, cells := 0, slots := 0, locals := 20 } : Room)) (fun a U => a = #[(.ref t1), (.int (0 : Int32)), (.int (1 : Int32))] ∧ Z.Warmed39 U.vm ∧ U.heap = h0) (fun _ _ _ _ _ => True) (fun _ U o U' => OwnEnd U (fun v h L => v = some (.int (1 : Int32)) ∧ Fr n0 L ∧ h = h0) ({ frames := 1, cells := 0, slots := 0, locals := 20 } : Room).cells ({ frames := 1, cells := 0, slots := 0, locals := 20 } : Room).slots o U') := by
  refine MetFree.of_bodySF (plainFor_of_name hnn_pn) hisR ?_
  intro p e s m args below meth c s₁ Bd hml0 hP hK
  obtain ⟨rfl, hZ, hh⟩ := hP
  have hx := Bd.exec
  have hby := Bd.bytes
  have hml : c.maxLocals = 3 := hml0
  have hown : s.vm.findClass "java/lang/StringCoding" = some m.cls := findClass_of_methodNamed Bd.named
  have hnm := (name_of_methodNamed Bd.named Bd.method).1
  have X0 : Stand p l e ({ frames := 1, cells := 0, slots := 0, locals := 20 } : Room) s m #[(.ref t1), (.int (0 : Int32)), (.int (1 : Int32))] below meth c s₁ [] 0 0 := Stand.of_body Bd
  have e0 : s₁.heap = h0 := by rw [← hh, Bd.state]; rfl
  have N0 := Fr.nil n0
  have KP0 := Keep.refl h0 []
  refine own_go (Q := (OwnEnd s (fun v h L => v = some (.int (1 : Int32)) ∧ Fr n0 L ∧ h = h0) ({ frames := 1, cells := 0, slots := 0, locals := 20 } : Room).cells ({ frames := 1, cells := 0, slots := 0, locals := 20 } : Room).slots)) ?_
  refine own_back (fun t k => castTop (hnn_ef m t1 (0 : Int32) (1 : Int32)) k) ?_
  show OwnGo p e below (s₁.setTop (mkF m 0 #[.val (.ref t1), .val (.int (0 : Int32)), .val (.int (1 : Int32))] [])) _
  refine own_back (fun t k => XS.aloadN X0.here hx rfl (hb hby hnn_d0) rfl rfl k) ?_
  show OwnGo p e below (s₁.setTop (mkF m 1 #[.val (.ref t1), .val (.int (0 : Int32)), .val (.int (1 : Int32))] [(.ref t1)])) _
  refine own_back (fun t k => XS.iloadN X0.here hx rfl (hb hby hnn_d1) rfl k) ?_
  show OwnGo p e below (s₁.setTop (mkF m 2 #[.val (.ref t1), .val (.int (0 : Int32)), .val (.int (1 : Int32))] [(.int (0 : Int32)), (.ref t1)])) _
  refine own_back (fun t k => XS.iloadN X0.here hx rfl (hb hby hnn_d2) rfl k) ?_
  show OwnGo p e below (s₁.setTop (mkF m 3 #[.val (.ref t1), .val (.int (0 : Int32)), .val (.int (1 : Int32))] [(.int (1 : Int32)), (.int (0 : Int32)), (.ref t1)])) _
  obtain ⟨_, _, ⟨T392, L392, k392, n392⟩, -, X392, ⟨Lc392, hQ392, l392, y392, z392⟩, st392⟩ := Jvm.LawKit.callS X0 hx (y := (⟨"java/lang/StringCoding", "countPositives", "([BII)I"⟩ : MethodName)) hown (mvT hZ (hw _ (List.mem_of_getElem? (i := 72) rfl))) (mvT hZ (hw _ (List.mem_of_getElem? (i := 73) rfl))) (mvT hZ (hw _ (List.mem_of_getElem? (i := 70) rfl))) (mvT hZ (hw _ (List.mem_of_getElem? (i := 74) rfl))) (by decide) (own_backN (W := 0) (rm_cpn l Z a0 hw [] t1 k1 y0 h0 n0 Z0 V1 s0) hZ (hw _ (List.mem_of_getElem? (i := 74) rfl)) (hw _ (List.mem_of_getElem? (i := 70) rfl)) (by decide) (by decide)) (g := (mkF m 3 #[.val (.ref t1), .val (.int (0 : Int32)), .val (.int (1 : Int32))] [(.int (1 : Int32)), (.int (0 : Int32)), (.ref t1)])) rfl (by rw [hml]; rfl) (argsL := [(.ref t1), (.int (0 : Int32)), (.int (1 : Int32))]) (rest := []) (lenOf hnn_pd0 rfl) rfl (by show 2 * 0 + _ ≤ _; exact Nat.le_of_eq rfl) (hb hby hnn_d3) (fun _ _ => ⟨rfl, e0, Nat.le_of_ble_eq_true rfl, Nat.le_of_ble_eq_true rfl⟩)
  dsimp only [Pt.U, Pt.locs, Pt.cells, Pt.slots] at X392 l392 y392 z392 st392 hQ392
  subst l392 y392 z392
  obtain ⟨rfl, N392q, hh392⟩ := hQ392
  refine own_back st392 ?_
  have N392 := Fr.app N0 N392q
  show OwnGo p e below (T392.setTop (mkF m 6 #[.val (.ref t1), .val (.int (0 : Int32)), .val (.int (1 : Int32))] [(.int (0 : Int32))])) _
  refine own_back (fun t k => XS.iloadN X392.here hx rfl (hb hby hnn_d6) rfl k) ?_
  show OwnGo p e below (T392.setTop (mkF m 7 #[.val (.ref t1), .val (.int (0 : Int32)), .val (.int (1 : Int32))] [(.int (1 : Int32)), (.int (0 : Int32))])) _
  refine own_back (fun t k => XS.icmpNo X392.here hx rfl (hb hby hnn_d7) rfl (Jvm.Free.XT.ii_eq_f (by decide)) k) ?_
  show OwnGo p e below (T392.setTop (mkF m 10 #[.val (.ref t1), .val (.int (0 : Int32)), .val (.int (1 : Int32))] [])) _
  refine own_back (fun t k => XS.iconst X392.here hx rfl (hb hby hnn_d10) k) ?_
  show OwnGo p e below (T392.setTop (mkF m 11 #[.val (.ref t1), .val (.int (0 : Int32)), .val (.int (1 : Int32))] [(.int (1 : Int32))])) _
  refine own_back (fun t k => XS.goto X392.here hx rfl (pc0 := 11) (pc' := 15) rfl (hb hby hnn_d11) (by decide) (by decide) k) ?_
  show OwnGo p e below (T392.setTop (mkF m 15 #[.val (.ref t1), .val (.int (0 : Int32)), .val (.int (1 : Int32))] [(.int (1 : Int32))])) _
  refine own_retN X392 hx Bd.notSynchronized (t := .boolean) (z := (1 : Int32)) Bd.returns (by simp) rfl (hb hby hnn_d15) hh392 (Nat.le_of_ble_eq_true rfl) (Nat.le_of_ble_eq_true rfl) ?_
  exact ⟨rfl, N392, rfl⟩
theorem eun_d0 : decode jdk_42_method_46_code 0 = .ok (.iload_n 0, 1) := by decide +kernel
theorem eun_d1 : decode jdk_42_method_46_code 1 = .ok (.iconst 1, 1) := by decide +kernel
theorem eun_d2 : decode jdk_42_method_46_code 2 = .ok (.if_icmp .ne 9, 3) := by decide +kernel
theorem eun_d11 : decode jdk_42_method_46_code 11 = .ok (.aload_n 1, 1) := by decide +kernel
theorem eun_d12 : decode jdk_42_method_46_code 12 = .ok (.iconst 0, 1) := by decide +kernel
theorem eun_d13 : decode jdk_42_method_46_code 13 = .ok (.aload_n 1, 1) := by decide +kernel
theorem eun_d14 : decode jdk_42_method_46_code 14 = .ok (.arraylength, 1) := by decide +kernel
theorem eun_d15 : decode jdk_42_method_46_code 15 = .ok (.invokestatic 128, 3) := by decide +kernel
theorem eun_d18 : decode jdk_42_method_46_code 18 = .ok (.ifCond .ne 11, 3) := by decide +kernel
theorem eun_d29 : decode jdk_42_method_46_code 29 = .ok (.iconst 0, 1) := by decide +kernel
theorem eun_d30 : decode jdk_42_method_46_code 30 = .ok (.istore_n 3, 1) := by decide +kernel
theorem eun_d31 : decode jdk_42_method_46_code 31 = .ok (.aload_n 1, 1) := by decide +kernel
theorem eun_d32 : decode jdk_42_method_46_code 32 = .ok (.arraylength, 1) := by decide +kernel
theorem eun_d33 : decode jdk_42_method_46_code 33 = .ok (.invokestatic 60, 3) := by decide +kernel
theorem eun_d36 : decode jdk_42_method_46_code 36 = .ok (.astore 4, 2) := by decide +kernel
theorem eun_d38 : decode jdk_42_method_46_code 38 = .ok (.aload_n 1, 1) := by decide +kernel
theorem eun_d39 : decode jdk_42_method_46_code 39 = .ok (.astore 5, 2) := by decide +kernel
theorem eun_d41 : decode jdk_42_method_46_code 41 = .ok (.aload 5, 2) := by decide +kernel
theorem eun_d43 : decode jdk_42_method_46_code 43 = .ok (.arraylength, 1) := by decide +kernel
theorem eun_d44 : decode jdk_42_method_46_code 44 = .ok (.istore 6, 2) := by decide +kernel
theorem eun_d46 : decode jdk_42_method_46_code 46 = .ok (.iconst 0, 1) := by decide +kernel
theorem eun_d47 : decode jdk_42_method_46_code 47 = .ok (.istore 7, 2) := by decide +kernel
theorem eun_d49 : decode jdk_42_method_46_code 49 = .ok (.iload 7, 2) := by decide +kernel
theorem eun_d51 : decode jdk_42_method_46_code 51 = .ok (.iload 6, 2) := by decide +kernel
theorem eun_d53 : decode jdk_42_method_46_code 53 = .ok (.if_icmp .ge 71, 3) := by decide +kernel
theorem eun_d56 : decode jdk_42_method_46_code 56 = .ok (.aload 5, 2) := by decide +kernel
theorem eun_d58 : decode jdk_42_method_46_code 58 = .ok (.iload 7, 2) := by decide +kernel
theorem eun_d60 : decode jdk_42_method_46_code 60 = .ok (.baload, 1) := by decide +kernel
theorem eun_d61 : decode jdk_42_method_46_code 61 = .ok (.istore 8, 2) := by decide +kernel
theorem eun_d63 : decode jdk_42_method_46_code 63 = .ok (.iload 8, 2) := by decide +kernel
theorem eun_d65 : decode jdk_42_method_46_code 65 = .ok (.ifCond .ge 44, 3) := by decide +kernel
theorem eun_d68 : decode jdk_42_method_46_code 68 = .ok (.aload 4, 2) := by decide +kernel
theorem eun_d70 : decode jdk_42_method_46_code 70 = .ok (.iload_n 3, 1) := by decide +kernel
theorem eun_d71 : decode jdk_42_method_46_code 71 = .ok (.iinc 3 1, 3) := by decide +kernel
theorem eun_d74 : decode jdk_42_method_46_code 74 = .ok (.sipush 192, 3) := by decide +kernel
theorem eun_d77 : decode jdk_42_method_46_code 77 = .ok (.iload 8, 2) := by decide +kernel
theorem eun_d79 : decode jdk_42_method_46_code 79 = .ok (.sipush 255, 3) := by decide +kernel
theorem eun_d82 : decode jdk_42_method_46_code 82 = .ok (.iand, 1) := by decide +kernel
theorem eun_d83 : decode jdk_42_method_46_code 83 = .ok (.bipush 6, 2) := by decide +kernel
theorem eun_d85 : decode jdk_42_method_46_code 85 = .ok (.ishr, 1) := by decide +kernel
theorem eun_d86 : decode jdk_42_method_46_code 86 = .ok (.ior, 1) := by decide +kernel
theorem eun_d87 : decode jdk_42_method_46_code 87 = .ok (.i2b, 1) := by decide +kernel
theorem eun_d88 : decode jdk_42_method_46_code 88 = .ok (.bastore, 1) := by decide +kernel
theorem eun_d89 : decode jdk_42_method_46_code 89 = .ok (.aload 4, 2) := by decide +kernel
theorem eun_d91 : decode jdk_42_method_46_code 91 = .ok (.iload_n 3, 1) := by decide +kernel
theorem eun_d92 : decode jdk_42_method_46_code 92 = .ok (.iinc 3 1, 3) := by decide +kernel
theorem eun_d95 : decode jdk_42_method_46_code 95 = .ok (.sipush 128, 3) := by decide +kernel
theorem eun_d98 : decode jdk_42_method_46_code 98 = .ok (.iload 8, 2) := by decide +kernel
theorem eun_d100 : decode jdk_42_method_46_code 100 = .ok (.bipush 63, 2) := by decide +kernel
theorem eun_d102 : decode jdk_42_method_46_code 102 = .ok (.iand, 1) := by decide +kernel
theorem eun_d103 : decode jdk_42_method_46_code 103 = .ok (.ior, 1) := by decide +kernel
theorem eun_d104 : decode jdk_42_method_46_code 104 = .ok (.i2b, 1) := by decide +kernel
theorem eun_d105 : decode jdk_42_method_46_code 105 = .ok (.bastore, 1) := by decide +kernel
theorem eun_d106 : decode jdk_42_method_46_code 106 = .ok (.goto 12, 3) := by decide +kernel
theorem eun_d118 : decode jdk_42_method_46_code 118 = .ok (.iinc 7 1, 3) := by decide +kernel
theorem eun_d121 : decode jdk_42_method_46_code 121 = .ok (.goto (-72), 3) := by decide +kernel
theorem eun_d124 : decode jdk_42_method_46_code 124 = .ok (.iload_n 3, 1) := by decide +kernel
theorem eun_d125 : decode jdk_42_method_46_code 125 = .ok (.aload 4, 2) := by decide +kernel
theorem eun_d127 : decode jdk_42_method_46_code 127 = .ok (.arraylength, 1) := by decide +kernel
theorem eun_d128 : decode jdk_42_method_46_code 128 = .ok (.if_icmp .ne 6, 3) := by decide +kernel
theorem eun_d131 : decode jdk_42_method_46_code 131 = .ok (.aload 4, 2) := by decide +kernel
theorem eun_d133 : decode jdk_42_method_46_code 133 = .ok (.areturn, 1) := by decide +kernel
theorem eun_pn : plainName "java/lang/String" = true := by first | (simp [plainName, overriddenIn]; done) | decide +kernel
theorem eun_pd0 : parseMethodDescriptor "([BII)Z" = some ⟨[(.array .byte), .int, .int], some .boolean⟩ := by decide +kernel
theorem eun_pd1 : parseMethodDescriptor "(I)[B" = some ⟨[.int], some (.array .byte)⟩ := by decide +kernel
theorem eun_ef (m : MethodId) (x0 : Int32) (x1 : Addr) (x2 : Int32) : entryFrame m #[(.int x0), (.ref x1), (.int x2)] 9 = mkF m 0 #[.val (.int x0), .val (.ref x1), .val (.int x2), .unset, .unset, .unset, .unset, .unset, .unset] [] := by first | (simp [entryFrame, mkF, argsToLocals, Value.category]; done) | rfl
set_option maxRecDepth 65536 in
set_option maxHeartbeats 40000000 in
theorem rm_eun (l : Launch) (Z : State) (a0 : Array Value) (hw : ∀ d ∈ tables_1, d.before a0 Z = true) (ws : List Jvm.Cond) (t1 : Addr) (k1 : ClassId) (y0 : Int32) (h0 : Heap) (n0 : Nat) (Z0 : n0 ≤ h0.size) (OL : Old Z n0 h0) (V1 : Arv Z h0 t1 k1 .byte (1 : Int32) [.int y0] (.int 0)) (X1 : Exa Z h0 t1 "[B") (s0 : y0 < 0) :
    MetFree l (⟨"java/lang/String", "encodeUTF8", "(B[BZ)[B"⟩ : MethodName) (head1 (Jvm.Cond.code (⟨"java/lang/String", "encodeUTF8", "(B[BZ)[B"⟩ : MethodName) jdk_42_method_46_code 9 (some (.array .byte)) :: ws) ({ frames := 2, cells := 2, slots := 8, locals := 90 } : Room)) (fun a U => a = #[(.int (0 : Int32)), (.ref t1), (.int (1 : Int32))] ∧ Z.Warmed39 U.vm ∧ U.heap = h0) (fun _ _ _ _ _ => True) (fun _ U o U' => OwnEnd U (fun v h L => ∃ b, v = some (.ref b) ∧ Fr n0 L ∧ Ext h0 h) ({ frames := 2, cells := 2, slots := 8, locals := 90 } : Room).cells ({ frames := 2, cells := 2, slots := 8, locals := 90 } : Room).slots o U') := by
  refine MetFree.of_bodySF (plainFor_of_name eun_pn) hisR ?_
  intro p e s m args below meth c s₁ Bd hml0 hP hK
  obtain ⟨rfl, hZ, hh⟩ := hP
  have hx := Bd.exec
  have hby := Bd.bytes
  have hml : c.maxLocals = 9 := hml0
  have hown : s.vm.findClass "java/lang/String" = some m.cls := findClass_of_methodNamed Bd.named
  have hnm := (name_of_methodNamed Bd.named Bd.method).1
  have X0 : Stand p l e ({ frames := 2, cells := 2, slots := 8, locals := 90 } : Room) s m #[(.int (0 : Int32)), (.ref t1), (.int (1 : Int32))] below meth c s₁ [] 0 0 := Stand.of_body Bd
  have e0 : s₁.heap = h0 := by rw [← hh, Bd.state]; rfl
  have N0 := Fr.nil n0
  have KP0 := Keep.refl h0 []
  refine own_go (Q := (OwnEnd s (fun v h L => ∃ b, v = some (.ref b) ∧ Fr n0 L ∧ Ext h0 h) ({ frames := 2, cells := 2, slots := 8, locals := 90 } : Room).cells ({ frames := 2, cells := 2, slots := 8, locals := 90 } : Room).slots)) ?_
  refine own_back (fun t k => castTop (eun_ef m (0 : Int32) t1 (1 : Int32)) k) ?_
  show OwnGo p e below (s₁.setTop (mkF m 0 #[.val (.int (0 : Int32)), .val (.ref t1), .val (.int (1 : Int32)), .unset, .unset, .unset, .unset, .unset, .unset] [])) _
  refine own_back (fun t k => XS.iloadN X0.here hx rfl (hb hby eun_d0) rfl k) ?_
  refine own_back (fun t k => XS.iconst X0.here hx rfl (hb hby eun_d1) k) ?_
  refine own_back (fun t k => XS.icmpYes X0.here hx rfl (pc0 := 2) (pc' := 11) rfl (hb hby eun_d2) rfl (Jvm.Free.XT.ii_ne_t (by decide)) (by decide) (by decide) k) ?_
  show OwnGo p e below (s₁.setTop (mkF m 11 #[.val (.int (0 : Int32)), .val (.ref t1), .val (.int (1 : Int32)), .unset, .unset, .unset, .unset, .unset, .unset] [])) _
  refine own_back (fun t k => XS.aloadN X0.here hx rfl (hb hby eun_d11) rfl rfl k) ?_
  show OwnGo p e below (s₁.setTop (mkF m 12 #[.val (.int (0 : Int32)), .val (.ref t1), .val (.int (1 : Int32)), .unset, .unset, .unset, .unset, .unset, .unset] [(.ref t1)])) _
  refine own_back (fun t k => XS.iconst X0.here hx rfl (hb hby eun_d12) k) ?_
  refine own_back (fun t k => XS.aloadN X0.here hx rfl (hb hby eun_d13) rfl rfl k) ?_
  obtain ⟨c393, A393, q393, S393, M393, H393, U393⟩ := id V1
  refine own_back (fun t k => X0.arraylength hx (own_hat e0 A393.1) (State.isArrayOf_alike hZ.alike A393.2.1) (g := (mkF m 14 #[.val (.int (0 : Int32)), .val (.ref t1), .val (.int (1 : Int32)), .unset, .unset, .unset, .unset, .unset, .unset] [(.ref t1), (.int (0 : Int32)), (.ref t1)])) rfl rfl (hb hby eun_d14) t k) ?_
  rw [len_of S393 M393]
  show OwnGo p e below (s₁.setTop (mkF m 15 #[.val (.int (0 : Int32)), .val (.ref t1), .val (.int (1 : Int32)), .unset, .unset, .unset, .unset, .unset, .unset] [(.int (1 : Int32)), (.int (0 : Int32)), (.ref t1)])) _
  obtain ⟨_, _, ⟨T394, L394, k394, n394⟩, -, X394, ⟨Lc394, hQ394, l394, y394, z394⟩, st394⟩ := Jvm.LawKit.callS X0 hx (y := (⟨"java/lang/StringCoding", "hasNegatives", "([BII)Z"⟩ : MethodName)) hown (mvT hZ (hw _ (List.mem_of_getElem? (i := 68) rfl))) (mvT hZ (hw _ (List.mem_of_getElem? (i := 69) rfl))) (mvT hZ (hw _ (List.mem_of_getElem? (i := 70) rfl))) (mvT hZ (hw _ (List.mem_of_getElem? (i := 71) rfl))) (by decide) (own_backN (W := 0) (rm_hnn l Z a0 hw [] t1 k1 y0 h0 n0 Z0 V1 s0) hZ (hw _ (List.mem_of_getElem? (i := 71) rfl)) (hw _ (List.mem_of_getElem? (i := 70) rfl)) (by decide) (by decide)) (g := (mkF m 15 #[.val (.int (0 : Int32)), .val (.ref t1), .val (.int (1 : Int32)), .unset, .unset, .unset, .unset, .unset, .unset] [(.int (1 : Int32)), (.int (0 : Int32)), (.ref t1)])) rfl (by rw [hml]; rfl) (argsL := [(.ref t1), (.int (0 : Int32)), (.int (1 : Int32))]) (rest := []) (lenOf eun_pd0 rfl) rfl (by show 2 * 0 + _ ≤ _; exact Nat.le_of_eq rfl) (hb hby eun_d15) (fun _ _ => ⟨rfl, e0, Nat.le_of_ble_eq_true rfl, Nat.le_of_ble_eq_true rfl⟩)
  dsimp only [Pt.U, Pt.locs, Pt.cells, Pt.slots] at X394 l394 y394 z394 st394 hQ394
  subst l394 y394 z394
  obtain ⟨rfl, N394q, hh394⟩ := hQ394
  refine own_back st394 ?_
  have N394 := Fr.app N0 N394q
  show OwnGo p e below (T394.setTop (mkF m 18 #[.val (.int (0 : Int32)), .val (.ref t1), .val (.int (1 : Int32)), .unset, .unset, .unset, .unset, .unset, .unset] [(.int (1 : Int32))])) _
  refine own_back (fun t k => XS.ifYes X394.here hx rfl (pc0 := 18) (pc' := 29) rfl (hb hby eun_d18) rfl (Jvm.Free.XT.i0_ne_t (by decide)) (by decide) (by decide) k) ?_
  show OwnGo p e below (T394.setTop (mkF m 29 #[.val (.int (0 : Int32)), .val (.ref t1), .val (.int (1 : Int32)), .unset, .unset, .unset, .unset, .unset, .unset] [])) _
  refine own_back (fun t k => XS.iconst X394.here hx rfl (hb hby eun_d29) k) ?_
  refine own_back (fun t k => XS.istoreN X394.here hx rfl (hb hby eun_d30) rfl (l' := #[.val (.int (0 : Int32)), .val (.ref t1), .val (.int (1 : Int32)), .val (.int (0 : Int32)), .unset, .unset, .unset, .unset, .unset]) rfl k) ?_
  refine own_back (fun t k => XS.aloadN X394.here hx rfl (hb hby eun_d31) rfl rfl k) ?_
  show OwnGo p e below (T394.setTop (mkF m 32 #[.val (.int (0 : Int32)), .val (.ref t1), .val (.int (1 : Int32)), .val (.int (0 : Int32)), .unset, .unset, .unset, .unset, .unset] [(.ref t1)])) _
  obtain ⟨c395, A395, q395, S395, M395, H395, U395⟩ := id V1
  refine own_back (fun t k => X394.arraylength hx (own_hat hh394 A395.1) (State.isArrayOf_alike hZ.alike A395.2.1) (g := (mkF m 32 #[.val (.int (0 : Int32)), .val (.ref t1), .val (.int (1 : Int32)), .val (.int (0 : Int32)), .unset, .unset, .unset, .unset, .unset] [(.ref t1)])) rfl rfl (hb hby eun_d32) t k) ?_
  rw [len_of S395 M395]
  obtain ⟨_, _, ⟨T396, L396, k396, n396⟩, -, X396, ⟨Lc396, hQ396, l396, y396, z396⟩, st396⟩ := Jvm.LawKit.callS X394 hx (y := (⟨"java/lang/StringUTF16", "newBytesFor", "(I)[B"⟩ : MethodName)) hown (mvT hZ (hw _ (List.mem_of_getElem? (i := 122) rfl))) (mvT hZ (hw _ (List.mem_of_getElem? (i := 123) rfl))) (mvT hZ (hw _ (List.mem_of_getElem? (i := 112) rfl))) (mvT hZ (hw _ (List.mem_of_getElem? (i := 124) rfl))) (by decide) (own_backN (W := 0) (rm_nbf1 l Z a0 hw [] h0 n0 Z0 OL) hZ (hw _ (List.mem_of_getElem? (i := 124) rfl)) (hw _ (List.mem_of_getElem? (i := 112) rfl)) (by decide) (by decide)) (g := (mkF m 33 #[.val (.int (0 : Int32)), .val (.ref t1), .val (.int (1 : Int32)), .val (.int (0 : Int32)), .unset, .unset, .unset, .unset, .unset] [(.int (1 : Int32))])) rfl (by rw [hml]; rfl) (argsL := [(.int (1 : Int32))]) (rest := []) (lenOf eun_pd1 rfl) rfl (by show 2 * 0 + _ ≤ _; exact Nat.le_of_eq rfl) (hb hby eun_d33) (fun _ _ => ⟨rfl, hh394, Nat.le_of_ble_eq_true rfl, Nat.le_of_ble_eq_true rfl⟩)
  dsimp only [Pt.U, Pt.locs, Pt.cells, Pt.slots] at X396 l396 y396 z396 st396 hQ396
  subst l396 y396 z396
  obtain ⟨bq396, kq396, rfl, N396q, E396, g396, z396, V396⟩ := hQ396
  refine own_back st396 ?_
  have N396 := Fr.app N394 N396q
  have O397 := OL.ext E396
  have KP398 := KP0.ext E396
  have Zs399 := Nat.le_trans Z0 E396.1
  have f400 := V1.ext E396
  show OwnGo p e below (T396.setTop (mkF m 36 #[.val (.int (0 : Int32)), .val (.ref t1), .val (.int (1 : Int32)), .val (.int (0 : Int32)), .unset, .unset, .unset, .unset, .unset] [(.ref bq396)])) _
  refine own_back (fun t k => XS.astore X396.here hx rfl (hb hby eun_d36) rfl rfl (l' := #[.val (.int (0 : Int32)), .val (.ref t1), .val (.int (1 : Int32)), .val (.int (0 : Int32)), .val (.ref bq396), .unset, .unset, .unset, .unset]) rfl k) ?_
  refine own_back (fun t k => XS.aloadN X396.here hx rfl (hb hby eun_d38) rfl rfl k) ?_
  show OwnGo p e below (T396.setTop (mkF m 39 #[.val (.int (0 : Int32)), .val (.ref t1), .val (.int (1 : Int32)), .val (.int (0 : Int32)), .val (.ref bq396), .unset, .unset, .unset, .unset] [(.ref t1)])) _
  refine own_back (fun t k => XS.astore X396.here hx rfl (hb hby eun_d39) rfl rfl (l' := #[.val (.int (0 : Int32)), .val (.ref t1), .val (.int (1 : Int32)), .val (.int (0 : Int32)), .val (.ref bq396), .val (.ref t1), .unset, .unset, .unset]) rfl k) ?_
  refine own_back (fun t k => XS.aload X396.here hx rfl (hb hby eun_d41) rfl rfl k) ?_
  obtain ⟨c401, A401, q401, S401, M401, H401, U401⟩ := id f400
  refine own_back (fun t k => X396.arraylength hx (own_hat rfl A401.1) (State.isArrayOf_alike hZ.alike A401.2.1) (g := (mkF m 43 #[.val (.int (0 : Int32)), .val (.ref t1), .val (.int (1 : Int32)), .val (.int (0 : Int32)), .val (.ref bq396), .val (.ref t1), .unset, .unset, .unset] [(.ref t1)])) rfl rfl (hb hby eun_d43) t k) ?_
  rw [len_of S401 M401]
  show OwnGo p e below (T396.setTop (mkF m 44 #[.val (.int (0 : Int32)), .val (.ref t1), .val (.int (1 : Int32)), .val (.int (0 : Int32)), .val (.ref bq396), .val (.ref t1), .unset, .unset, .unset] [(.int (1 : Int32))])) _
  refine own_back (fun t k => XS.istore X396.here hx rfl (hb hby eun_d44) rfl (l' := #[.val (.int (0 : Int32)), .val (.ref t1), .val (.int (1 : Int32)), .val (.int (0 : Int32)), .val (.ref bq396), .val (.ref t1), .val (.int (1 : Int32)), .unset, .unset]) rfl k) ?_
  refine own_back (fun t k => XS.iconst X396.here hx rfl (hb hby eun_d46) k) ?_
  refine own_back (fun t k => XS.istore X396.here hx rfl (hb hby eun_d47) rfl (l' := #[.val (.int (0 : Int32)), .val (.ref t1), .val (.int (1 : Int32)), .val (.int (0 : Int32)), .val (.ref bq396), .val (.ref t1), .val (.int (1 : Int32)), .val (.int (0 : Int32)), .unset]) rfl k) ?_
  show OwnGo p e below (T396.setTop (mkF m 49 #[.val (.int (0 : Int32)), .val (.ref t1), .val (.int (1 : Int32)), .val (.int (0 : Int32)), .val (.ref bq396), .val (.ref t1), .val (.int (1 : Int32)), .val (.int (0 : Int32)), .unset] [])) _
  refine own_back (fun t k => XS.iload X396.here hx rfl (hb hby eun_d49) rfl k) ?_
  refine own_back (fun t k => XS.iload X396.here hx rfl (hb hby eun_d51) rfl k) ?_
  refine own_back (fun t k => XS.icmpNo X396.here hx rfl (hb hby eun_d53) rfl (Jvm.Free.XT.ii_ge_f (by decide)) k) ?_
  show OwnGo p e below (T396.setTop (mkF m 56 #[.val (.int (0 : Int32)), .val (.ref t1), .val (.int (1 : Int32)), .val (.int (0 : Int32)), .val (.ref bq396), .val (.ref t1), .val (.int (1 : Int32)), .val (.int (0 : Int32)), .unset] [])) _
  refine own_back (fun t k => XS.aload X396.here hx rfl (hb hby eun_d56) rfl rfl k) ?_
  show OwnGo p e below (T396.setTop (mkF m 58 #[.val (.int (0 : Int32)), .val (.ref t1), .val (.int (1 : Int32)), .val (.int (0 : Int32)), .val (.ref bq396), .val (.ref t1), .val (.int (1 : Int32)), .val (.int (0 : Int32)), .unset] [(.ref t1)])) _
  refine own_back (fun t k => XS.iload X396.here hx rfl (hb hby eun_d58) rfl k) ?_
  obtain ⟨c402, A402, q402, S402, M402, H402, U402⟩ := id f400
  have ib403 : ¬ ((0 : Int32) < 0 ∨ c402.slots.size ≤ ((0 : Int32)).toNatClampNeg) := (inb_of S402 ⟨by decide, by decide⟩)
  refine own_back (fun t k => X396.baloadBytes hx (j := (0 : Int32)) (v := (.int y0)) (own_hat rfl A402.1) (State.isArrayOf_alike hZ.alike A402.2.1) A402.2.2 ib403 (H402.at ib403 rfl) (g := (mkF m 60 #[.val (.int (0 : Int32)), .val (.ref t1), .val (.int (1 : Int32)), .val (.int (0 : Int32)), .val (.ref bq396), .val (.ref t1), .val (.int (1 : Int32)), .val (.int (0 : Int32)), .unset] [(.int (0 : Int32)), (.ref t1)])) rfl rfl (hb hby eun_d60) t k) ?_
  refine own_back (fun t k => XS.istore X396.here hx rfl (hb hby eun_d61) rfl (l' := #[.val (.int (0 : Int32)), .val (.ref t1), .val (.int (1 : Int32)), .val (.int (0 : Int32)), .val (.ref bq396), .val (.ref t1), .val (.int (1 : Int32)), .val (.int (0 : Int32)), .val (.int y0)]) rfl k) ?_
  show OwnGo p e below (T396.setTop (mkF m 63 #[.val (.int (0 : Int32)), .val (.ref t1), .val (.int (1 : Int32)), .val (.int (0 : Int32)), .val (.ref bq396), .val (.ref t1), .val (.int (1 : Int32)), .val (.int (0 : Int32)), .val (.int y0)] [])) _
  refine own_back (fun t k => XS.iload X396.here hx rfl (hb hby eun_d63) rfl k) ?_
  refine own_back (fun t k => XS.ifNo X396.here hx rfl (hb hby eun_d65) rfl (Jvm.Free.XT.i0_ge_f s0) k) ?_
  show OwnGo p e below (T396.setTop (mkF m 68 #[.val (.int (0 : Int32)), .val (.ref t1), .val (.int (1 : Int32)), .val (.int (0 : Int32)), .val (.ref bq396), .val (.ref t1), .val (.int (1 : Int32)), .val (.int (0 : Int32)), .val (.int y0)] [])) _
  refine own_back (fun t k => XS.aload X396.here hx rfl (hb hby eun_d68) rfl rfl k) ?_
  refine own_back (fun t k => XS.iloadN X396.here hx rfl (hb hby eun_d70) rfl k) ?_
  show OwnGo p e below (T396.setTop (mkF m 71 #[.val (.int (0 : Int32)), .val (.ref t1), .val (.int (1 : Int32)), .val (.int (0 : Int32)), .val (.ref bq396), .val (.ref t1), .val (.int (1 : Int32)), .val (.int (0 : Int32)), .val (.int y0)] [(.int (0 : Int32)), (.ref bq396)])) _
  refine own_back (fun t k => XS.iinc X396.here hx rfl (hb hby eun_d71) rfl (l' := #[.val (.int (0 : Int32)), .val (.ref t1), .val (.int (1 : Int32)), .val (.int (1 : Int32)), .val (.ref bq396), .val (.ref t1), .val (.int (1 : Int32)), .val (.int (0 : Int32)), .val (.int y0)]) rfl k) ?_
  refine own_back (fun t k => XS.sipush X396.here hx rfl (hb hby eun_d74) k) ?_
  refine own_back (fun t k => XS.iload X396.here hx rfl (hb hby eun_d77) rfl k) ?_
  show OwnGo p e below (T396.setTop (mkF m 79 #[.val (.int (0 : Int32)), .val (.ref t1), .val (.int (1 : Int32)), .val (.int (1 : Int32)), .val (.ref bq396), .val (.ref t1), .val (.int (1 : Int32)), .val (.int (0 : Int32)), .val (.int y0)] [(.int y0), (.int (192 : Int32)), (.int (0 : Int32)), (.ref bq396)])) _
  refine own_back (fun t k => XS.sipush X396.here hx rfl (hb hby eun_d79) k) ?_
  refine own_back (fun t k => XS.iand X396.here hx rfl (hb hby eun_d82) rfl k) ?_
  refine own_back (fun t k => XS.bipush X396.here hx rfl (hb hby eun_d83) k) ?_
  show OwnGo p e below (T396.setTop (mkF m 85 #[.val (.int (0 : Int32)), .val (.ref t1), .val (.int (1 : Int32)), .val (.int (1 : Int32)), .val (.ref bq396), .val (.ref t1), .val (.int (1 : Int32)), .val (.int (0 : Int32)), .val (.int y0)] [(.int (6 : Int32)), (.int (y0 &&& (255 : Int32))), (.int (192 : Int32)), (.int (0 : Int32)), (.ref bq396)])) _
  refine own_back (fun t k => XS.ishr X396.here hx rfl (hb hby eun_d85) rfl k) ?_
  refine own_back (fun t k => XS.ior X396.here hx rfl (hb hby eun_d86) rfl k) ?_
  refine own_back (fun t k => XS.i2b X396.here hx rfl (hb hby eun_d87) rfl k) ?_
  show OwnGo p e below (T396.setTop (mkF m 88 #[.val (.int (0 : Int32)), .val (.ref t1), .val (.int (1 : Int32)), .val (.int (1 : Int32)), .val (.ref bq396), .val (.ref t1), .val (.int (1 : Int32)), .val (.int (0 : Int32)), .val (.int y0)] [(.int ((192 : Int32) ||| ((y0 &&& (255 : Int32)) >>> ((6 : Int32) &&& 31))).toInt8.toInt32), (.int (0 : Int32)), (.ref bq396)])) _
  obtain ⟨c404, A404, q404, S404, M404, H404, U404⟩ := id V396
  obtain ⟨T405, h405, X405, e405, W405, st405⟩ := stB X396 hx hZ rfl A404 (j := (0 : Int32)) (inb_of S404 ⟨by decide, by decide⟩) (g := (mkF m 88 #[.val (.int (0 : Int32)), .val (.ref t1), .val (.int (1 : Int32)), .val (.int (1 : Int32)), .val (.ref bq396), .val (.ref t1), .val (.int (1 : Int32)), .val (.int (0 : Int32)), .val (.int y0)] [(.int ((192 : Int32) ||| ((y0 &&& (255 : Int32)) >>> ((6 : Int32) &&& 31))).toInt8.toInt32), (.int (0 : Int32)), (.ref bq396)])) rfl rfl (hb hby eun_d88)
  have O406 := O397.wr W405 g396
  have KP407 := KP398.wr W405 (Or.inr z396)
  have Zs408 := Nat.le_trans Zs399 (Keep.of_wr W405).1
  have f409 := f400.other W405 (Nat.ne_of_lt (Nat.lt_of_lt_of_le V1.lt z396))
  have V410 : Arv Z h405 bq396 kq396 .byte (2 : Int32) [(.int ((192 : Int32) ||| ((y0 &&& (255 : Int32)) >>> ((6 : Int32) &&& 31))).toInt8.toInt32.toInt8.toInt32), (.int 0)] (.int 0) := Arv.set A404 q404 S404 M404 H404 U404 (fits_nar_byte _) W405 0 rfl (Nat.le_of_ble_eq_true rfl)
  have N411 := Fr.snoc X405 N396 g396
  refine own_back st405 ?_
  refine own_back (fun t k => XS.aload X405.here hx rfl (hb hby eun_d89) rfl rfl k) ?_
  refine own_back (fun t k => XS.iloadN X405.here hx rfl (hb hby eun_d91) rfl k) ?_
  show OwnGo p e below (T405.setTop (mkF m 92 #[.val (.int (0 : Int32)), .val (.ref t1), .val (.int (1 : Int32)), .val (.int (1 : Int32)), .val (.ref bq396), .val (.ref t1), .val (.int (1 : Int32)), .val (.int (0 : Int32)), .val (.int y0)] [(.int (1 : Int32)), (.ref bq396)])) _
  refine own_back (fun t k => XS.iinc X405.here hx rfl (hb hby eun_d92) rfl (l' := #[.val (.int (0 : Int32)), .val (.ref t1), .val (.int (1 : Int32)), .val (.int (2 : Int32)), .val (.ref bq396), .val (.ref t1), .val (.int (1 : Int32)), .val (.int (0 : Int32)), .val (.int y0)]) rfl k) ?_
  refine own_back (fun t k => XS.sipush X405.here hx rfl (hb hby eun_d95) k) ?_
  refine own_back (fun t k => XS.iload X405.here hx rfl (hb hby eun_d98) rfl k) ?_
  show OwnGo p e below (T405.setTop (mkF m 100 #[.val (.int (0 : Int32)), .val (.ref t1), .val (.int (1 : Int32)), .val (.int (2 : Int32)), .val (.ref bq396), .val (.ref t1), .val (.int (1 : Int32)), .val (.int (0 : Int32)), .val (.int y0)] [(.int y0), (.int (128 : Int32)), (.int (1 : Int32)), (.ref bq396)])) _
  refine own_back (fun t k => XS.bipush X405.here hx rfl (hb hby eun_d100) k) ?_
  refine own_back (fun t k => XS.iand X405.here hx rfl (hb hby eun_d102) rfl k) ?_
  refine own_back (fun t k => XS.ior X405.here hx rfl (hb hby eun_d103) rfl k) ?_
  show OwnGo p e below (T405.setTop (mkF m 104 #[.val (.int (0 : Int32)), .val (.ref t1), .val (.int (1 : Int32)), .val (.int (2 : Int32)), .val (.ref bq396), .val (.ref t1), .val (.int (1 : Int32)), .val (.int (0 : Int32)), .val (.int y0)] [(.int ((128 : Int32) ||| (y0 &&& (63 : Int32)))), (.int (1 : Int32)), (.ref bq396)])) _
  refine own_back (fun t k => XS.i2b X405.here hx rfl (hb hby eun_d104) rfl k) ?_
  obtain ⟨c412, A412, q412, S412, M412, H412, U412⟩ := id V410
  obtain ⟨T413, h413, X413, e413, W413, st413⟩ := stB X405 hx hZ e405 A412 (j := (1 : Int32)) (inb_of S412 ⟨by decide, by decide⟩) (g := (mkF m 105 #[.val (.int (0 : Int32)), .val (.ref t1), .val (.int (1 : Int32)), .val (.int (2 : Int32)), .val (.ref bq396), .val (.ref t1), .val (.int (1 : Int32)), .val (.int (0 : Int32)), .val (.int y0)] [(.int ((128 : Int32) ||| (y0 &&& (63 : Int32))).toInt8.toInt32), (.int (1 : Int32)), (.ref bq396)])) rfl rfl (hb hby eun_d105)
  have O414 := O406.wr W413 g396
  have KP415 := KP407.wr W413 (Or.inr z396)
  have Zs416 := Nat.le_trans Zs408 (Keep.of_wr W413).1
  have f417 := f409.other W413 (Nat.ne_of_lt (Nat.lt_of_lt_of_le V1.lt z396))
  have V418 : Arv Z h413 bq396 kq396 .byte (2 : Int32) [(.int ((192 : Int32) ||| ((y0 &&& (255 : Int32)) >>> ((6 : Int32) &&& 31))).toInt8.toInt32.toInt8.toInt32), (.int ((128 : Int32) ||| (y0 &&& (63 : Int32))).toInt8.toInt32.toInt8.toInt32)] (.int 0) := Arv.set A412 q412 S412 M412 H412 U412 (fits_nar_byte _) W413 1 rfl (Nat.le_of_ble_eq_true rfl)
  have N419 := Fr.snoc X413 N411 g396
  refine own_back st413 ?_
  refine own_back (fun t k => XS.goto X413.here hx rfl (pc0 := 106) (pc' := 118) rfl (hb hby eun_d106) (by decide) (by decide) k) ?_
  show OwnGo p e below (T413.setTop (mkF m 118 #[.val (.int (0 : Int32)), .val (.ref t1), .val (.int (1 : Int32)), .val (.int (2 : Int32)), .val (.ref bq396), .val (.ref t1), .val (.int (1 : Int32)), .val (.int (0 : Int32)), .val (.int y0)] [])) _
  refine own_back (fun t k => XS.iinc X413.here hx rfl (hb hby eun_d118) rfl (l' := #[.val (.int (0 : Int32)), .val (.ref t1), .val (.int (1 : Int32)), .val (.int (2 : Int32)), .val (.ref bq396), .val (.ref t1), .val (.int (1 : Int32)), .val (.int (1 : Int32)), .val (.int y0)]) rfl k) ?_
  refine own_back (fun t k => XS.goto X413.here hx rfl (pc0 := 121) (pc' := 49) rfl (hb hby eun_d121) (by decide) (by decide) k) ?_
  refine own_back (fun t k => XS.iload X413.here hx rfl (hb hby eun_d49) rfl k) ?_
  show OwnGo p e below (T413.setTop (mkF m 51 #[.val (.int (0 : Int32)), .val (.ref t1), .val (.int (1 : Int32)), .val (.int (2 : Int32)), .val (.ref bq396), .val (.ref t1), .val (.int (1 : Int32)), .val (.int (1 : Int32)), .val (.int y0)] [(.int (1 : Int32))])) _
  refine own_back (fun t k => XS.iload X413.here hx rfl (hb hby eun_d51) rfl k) ?_
  refine own_back (fun t k => XS.icmpYes X413.here hx rfl (pc0 := 53) (pc' := 124) rfl (hb hby eun_d53) rfl (Jvm.Free.XT.ii_ge_t (by decide)) (by decide) (by decide) k) ?_
  show OwnGo p e below (T413.setTop (mkF m 124 #[.val (.int (0 : Int32)), .val (.ref t1), .val (.int (1 : Int32)), .val (.int (2 : Int32)), .val (.ref bq396), .val (.ref t1), .val (.int (1 : Int32)), .val (.int (1 : Int32)), .val (.int y0)] [])) _
  refine own_back (fun t k => XS.iloadN X413.here hx rfl (hb hby eun_d124) rfl k) ?_
  refine own_back (fun t k => XS.aload X413.here hx rfl (hb hby eun_d125) rfl rfl k) ?_
  show OwnGo p e below (T413.setTop (mkF m 127 #[.val (.int (0 : Int32)), .val (.ref t1), .val (.int (1 : Int32)), .val (.int (2 : Int32)), .val (.ref bq396), .val (.ref t1), .val (.int (1 : Int32)), .val (.int (1 : Int32)), .val (.int y0)] [(.ref bq396), (.int (2 : Int32))])) _
  obtain ⟨c420, A420, q420, S420, M420, H420, U420⟩ := id V418
  refine own_back (fun t k => X413.arraylength hx (own_hat e413 A420.1) (State.isArrayOf_alike hZ.alike A420.2.1) (g := (mkF m 127 #[.val (.int (0 : Int32)), .val (.ref t1), .val (.int (1 : Int32)), .val (.int (2 : Int32)), .val (.ref bq396), .val (.ref t1), .val (.int (1 : Int32)), .val (.int (1 : Int32)), .val (.int y0)] [(.ref bq396), (.int (2 : Int32))])) rfl rfl (hb hby eun_d127) t k) ?_
  rw [len_of S420 M420]
  refine own_back (fun t k => XS.icmpNo X413.here hx rfl (hb hby eun_d128) rfl (Jvm.Free.XT.ii_ne_f (by decide)) k) ?_
  show OwnGo p e below (T413.setTop (mkF m 131 #[.val (.int (0 : Int32)), .val (.ref t1), .val (.int (1 : Int32)), .val (.int (2 : Int32)), .val (.ref bq396), .val (.ref t1), .val (.int (1 : Int32)), .val (.int (1 : Int32)), .val (.int y0)] [])) _
  refine own_back (fun t k => XS.aload X413.here hx rfl (hb hby eun_d131) rfl rfl k) ?_
  refine own_retA X413 hx Bd.notSynchronized Bd.returns rfl rfl (hb hby eun_d133) e413 (Nat.le_of_ble_eq_true rfl) (Nat.le_of_ble_eq_true rfl) ?_
  exact ⟨_, rfl, N419, own_ext KP415⟩
theorem encn_d0 : decode jdk_42_method_18_code 0 = .ok (.aload_n 0, 1) := by decide +kernel
theorem encn_d1 : decode jdk_42_method_18_code 1 = .ok (.getstatic 86, 3) := by decide +kernel
theorem encn_d4 : decode jdk_42_method_18_code 4 = .ok (.if_acmp .ne 10, 3) := by decide +kernel
theorem encn_d7 : decode jdk_42_method_18_code 7 = .ok (.iload_n 1, 1) := by decide +kernel
theorem encn_d8 : decode jdk_42_method_18_code 8 = .ok (.aload_n 2, 1) := by decide +kernel
theorem encn_d9 : decode jdk_42_method_18_code 9 = .ok (.iconst 1, 1) := by decide +kernel
theorem encn_d10 : decode jdk_42_method_18_code 10 = .ok (.invokestatic 252, 3) := by decide +kernel
theorem encn_d13 : decode jdk_42_method_18_code 13 = .ok (.areturn, 1) := by decide +kernel
theorem encn_pn : plainName "java/lang/String" = true := by first | (simp [plainName, overriddenIn]; done) | decide +kernel
theorem encn_pd0 : parseMethodDescriptor "(B[BZ)[B" = some ⟨[.byte, (.array .byte), .boolean], some (.array .byte)⟩ := by decide +kernel
theorem encn_ef (m : MethodId) (x0 : Addr) (x1 : Int32) (x2 : Addr) : entryFrame m #[(.ref x0), (.int x1), (.ref x2)] 3 = mkF m 0 #[.val (.ref x0), .val (.int x1), .val (.ref x2)] [] := by first | (simp [entryFrame, mkF, argsToLocals, Value.category]; done) | rfl
set_option maxRecDepth 65536 in
set_option maxHeartbeats 40000000 in
theorem rm_encn (l : Launch) (Z : State) (a0 : Array Value) (hw : ∀ d ∈ tables_1, d.before a0 Z = true) (ws : List Jvm.Cond) (t1 : Addr) (k1 : ClassId) (y0 : Int32) (w8 : Addr) (h0 : Heap) (n0 : Nat) (Z0 : n0 ≤ h0.size) (OL : Old Z n0 h0) (V1 : Arv Z h0 t1 k1 .byte (1 : Int32) [.int y0] (.int 0)) (X1 : Exa Z h0 t1 "[B") (s0 : y0 < 0) (SI : Sta Z Z.heap "sun/nio/cs/UTF_8" "INSTANCE" "Lsun/nio/cs/UTF_8;" (.ref w8)) :
    MetFree l (⟨"java/lang/String", "encode", "(Ljava/nio/charset/Charset;B[B)[B"⟩ : MethodName) (head1 (Jvm.Cond.code (⟨"java/lang/String", "encode", "(Ljava/nio/charset/Charset;B[B)[B"⟩ : MethodName) jdk_42_method_18_code 3 (some (.array .byte)) :: ws) ({ frames := 3, cells := 2, slots := 8, locals := 115 } : Room)) (fun a U => a = #[(.ref w8), (.int (0 : Int32)), (.ref t1)] ∧ Z.Warmed39 U.vm ∧ U.heap = h0) (fun _ _ _ _ _ => True) (fun _ U o U' => OwnEnd U (fun v h L => ∃ b, v = some (.ref b) ∧ Fr n0 L ∧ Ext h0 h) ({ frames := 3, cells := 2, slots := 8, locals := 115 } : Room).cells ({ frames := 3, cells := 2, slots := 8, locals := 115 } : Room).slots o U') := by
  refine MetFree.of_bodySF (plainFor_of_name encn_pn) hisR ?_
  intro p e s m args below meth c s₁ Bd hml0 hP hK
  obtain ⟨rfl, hZ, hh⟩ := hP
  have hx := Bd.exec
  have hby := Bd.bytes
  have hml : c.maxLocals = 3 := hml0
  have hown : s.vm.findClass "java/lang/String" = some m.cls := findClass_of_methodNamed Bd.named
  have hnm := (name_of_methodNamed Bd.named Bd.method).1
  have X0 : Stand p l e ({ frames := 3, cells := 2, slots := 8, locals := 115 } : Room) s m #[(.ref w8), (.int (0 : Int32)), (.ref t1)] below meth c s₁ [] 0 0 := Stand.of_body Bd
  have e0 : s₁.heap = h0 := by rw [← hh, Bd.state]; rfl
  have N0 := Fr.nil n0
  have KP0 := Keep.refl h0 []
  refine own_go (Q := (OwnEnd s (fun v h L => ∃ b, v = some (.ref b) ∧ Fr n0 L ∧ Ext h0 h) ({ frames := 3, cells := 2, slots := 8, locals := 115 } : Room).cells ({ frames := 3, cells := 2, slots := 8, locals := 115 } : Room).slots)) ?_
  refine own_back (fun t k => castTop (encn_ef m w8 (0 : Int32) t1) k) ?_
  show OwnGo p e below (s₁.setTop (mkF m 0 #[.val (.ref w8), .val (.int (0 : Int32)), .val (.ref t1)] [])) _
  refine own_back (fun t k => XS.aloadN X0.here hx rfl (hb hby encn_d0) rfl rfl k) ?_
  show OwnGo p e below (s₁.setTop (mkF m 1 #[.val (.ref w8), .val (.int (0 : Int32)), .val (.ref t1)] [(.ref w8)])) _
  obtain ⟨T421, X421, e421, st421⟩ := getS2 X0 hx hZ hown (host := "") (Or.inl (hw _ (List.mem_of_getElem? (i := 63) rfl))) Via.refl e0 (SI.ext OL.2) (g := (mkF m 1 #[.val (.ref w8), .val (.int (0 : Int32)), .val (.ref t1)] [(.ref w8)])) rfl (hb hby encn_d1)
  refine own_back st421 ?_
  show OwnGo p e below (T421.setTop (mkF m 4 #[.val (.ref w8), .val (.int (0 : Int32)), .val (.ref t1)] [(.ref w8), (.ref w8)])) _
  refine own_back (fun t k => Jvm.RoadKit.acmp (g := (mkF m 4 #[.val (.ref w8), .val (.int (0 : Int32)), .val (.ref t1)] [(.ref w8), (.ref w8)])) X421 hx rfl rfl rfl (pc0 := 4) (pc' := 7) (same := true) rfl (hb hby encn_d4) rfl (decide_eq_true rfl) (by decide) (by decide) k) ?_
  show OwnGo p e below (T421.setTop (mkF m 7 #[.val (.ref w8), .val (.int (0 : Int32)), .val (.ref t1)] [])) _
  refine own_back (fun t k => XS.iloadN X421.here hx rfl (hb hby encn_d7) rfl k) ?_
  show OwnGo p e below (T421.setTop (mkF m 8 #[.val (.ref w8), .val (.int (0 : Int32)), .val (.ref t1)] [(.int (0 : Int32))])) _
  refine own_back (fun t k => XS.aloadN X421.here hx rfl (hb hby encn_d8) rfl rfl k) ?_
  show OwnGo p e below (T421.setTop (mkF m 9 #[.val (.ref w8), .val (.int (0 : Int32)), .val (.ref t1)] [(.ref t1), (.int (0 : Int32))])) _
  refine own_back (fun t k => XS.iconst X421.here hx rfl (hb hby encn_d9) k) ?_
  show OwnGo p e below (T421.setTop (mkF m 10 #[.val (.ref w8), .val (.int (0 : Int32)), .val (.ref t1)] [(.int (1 : Int32)), (.ref t1), (.int (0 : Int32))])) _
  obtain ⟨_, _, ⟨T422, L422, k422, n422⟩, -, X422, ⟨Lc422, hQ422, l422, y422, z422⟩, st422⟩ := Jvm.LawKit.callS X421 hx (y := (⟨"java/lang/String", "encodeUTF8", "(B[BZ)[B"⟩ : MethodName)) hown (mvT hZ (hw _ (List.mem_of_getElem? (i := 65) rfl))) (mvT hZ (hw _ (List.mem_of_getElem? (i := 66) rfl))) (mvT hZ (hw _ (List.mem_of_getElem? (i := 6) rfl))) (mvT hZ (hw _ (List.mem_of_getElem? (i := 67) rfl))) (by decide) (own_backN (W := 0) (rm_eun l Z a0 hw [] t1 k1 y0 h0 n0 Z0 OL V1 X1 s0) hZ (hw _ (List.mem_of_getElem? (i := 67) rfl)) (hw _ (List.mem_of_getElem? (i := 6) rfl)) (by decide) (by decide)) (g := (mkF m 10 #[.val (.ref w8), .val (.int (0 : Int32)), .val (.ref t1)] [(.int (1 : Int32)), (.ref t1), (.int (0 : Int32))])) rfl (by rw [hml]; rfl) (argsL := [(.int (0 : Int32)), (.ref t1), (.int (1 : Int32))]) (rest := []) (lenOf encn_pd0 rfl) rfl (by show 2 * 0 + _ ≤ _; exact Nat.le_of_eq rfl) (hb hby encn_d10) (fun _ _ => ⟨rfl, e421, Nat.le_of_ble_eq_true rfl, Nat.le_of_ble_eq_true rfl⟩)
  dsimp only [Pt.U, Pt.locs, Pt.cells, Pt.slots] at X422 l422 y422 z422 st422 hQ422
  subst l422 y422 z422
  obtain ⟨bq422, rfl, N422q, E422⟩ := hQ422
  refine own_back st422 ?_
  have N422 := Fr.app N0 N422q
  have O423 := OL.ext E422
  have KP424 := KP0.ext E422
  have Zs425 := Nat.le_trans Z0 E422.1
  have f426 := V1.ext E422
  show OwnGo p e below (T422.setTop (mkF m 13 #[.val (.ref w8), .val (.int (0 : Int32)), .val (.ref t1)] [(.ref bq422)])) _
  refine own_retA X422 hx Bd.notSynchronized Bd.returns rfl rfl (hb hby encn_d13) rfl (Nat.le_of_ble_eq_true rfl) (Nat.le_of_ble_eq_true rfl) ?_
  exact ⟨_, rfl, N422, own_ext KP424⟩
theorem cpp_d0 : decode jdk_123_method_3_code 0 = .ok (.iload_n 1, 1) := by decide +kernel
theorem cpp_d1 : decode jdk_123_method_3_code 1 = .ok (.iload_n 2, 1) := by decide +kernel
theorem cpp_d2 : decode jdk_123_method_3_code 2 = .ok (.iadd, 1) := by decide +kernel
theorem cpp_d3 : decode jdk_123_method_3_code 3 = .ok (.istore_n 3, 1) := by decide +kernel
theorem cpp_d4 : decode jdk_123_method_3_code 4 = .ok (.iload_n 1, 1) := by decide +kernel
theorem cpp_d5 : decode jdk_123_method_3_code 5 = .ok (.istore 4, 2) := by decide +kernel
theorem cpp_d7 : decode jdk_123_method_3_code 7 = .ok (.iload 4, 2) := by decide +kernel
theorem cpp_d9 : decode jdk_123_method_3_code 9 = .ok (.iload_n 3, 1) := by decide +kernel
theorem cpp_d10 : decode jdk_123_method_3_code 10 = .ok (.if_icmp .ge 21, 3) := by decide +kernel
theorem cpp_d13 : decode jdk_123_method_3_code 13 = .ok (.aload_n 0, 1) := by decide +kernel
theorem cpp_d14 : decode jdk_123_method_3_code 14 = .ok (.iload 4, 2) := by decide +kernel
theorem cpp_d16 : decode jdk_123_method_3_code 16 = .ok (.baload, 1) := by decide +kernel
theorem cpp_d17 : decode jdk_123_method_3_code 17 = .ok (.ifCond .ge 8, 3) := by decide +kernel
theorem cpp_d25 : decode jdk_123_method_3_code 25 = .ok (.iinc 4 1, 3) := by decide +kernel
theorem cpp_d28 : decode jdk_123_method_3_code 28 = .ok (.goto (-21), 3) := by decide +kernel
theorem cpp_d31 : decode jdk_123_method_3_code 31 = .ok (.iload_n 2, 1) := by decide +kernel
theorem cpp_d32 : decode jdk_123_method_3_code 32 = .ok (.ireturn, 1) := by decide +kernel
theorem cpp_pn : plainName "java/lang/StringCoding" = true := by first | (simp [plainName, overriddenIn]; done) | decide +kernel
theorem cpp_ef (m : MethodId) (x0 : Addr) (x1 : Int32) (x2 : Int32) : entryFrame m #[(.ref x0), (.int x1), (.int x2)] 5 = mkF m 0 #[.val (.ref x0), .val (.int x1), .val (.int x2), .unset, .unset] [] := by first | (simp [entryFrame, mkF, argsToLocals, Value.category]; done) | rfl
set_option maxRecDepth 65536 in
set_option maxHeartbeats 40000000 in
theorem rm_cpp (l : Launch) (Z : State) (a0 : Array Value) (hw : ∀ d ∈ tables_1, d.before a0 Z = true) (ws : List Jvm.Cond) (t1 : Addr) (k1 : ClassId) (y0 : Int32) (h0 : Heap) (n0 : Nat) (Z0 : n0 ≤ h0.size) (V1 : Arv Z h0 t1 k1 .byte (1 : Int32) [.int y0] (.int 0)) (s0 : ¬ y0 < 0) :
    MetFree l (⟨"java/lang/StringCoding", "countPositives", "([BII)I"⟩ : MethodName) (head1 (Jvm.Cond.code (⟨"java/lang/StringCoding", "countPositives", "([BII)I"⟩ : MethodName) jdk_123_method_3_code 5 (some .int) :: ws) ({ frames := 0, cells := 0, slots := 0, locals := 0 } : Room)) (fun a U => a = #[(.ref t1), (.int (0 : Int32)), (.int (1 : Int32))] ∧ Z.Warmed39 U.vm ∧ U.heap = h0) (fun _ _ _ _ _ => True) (fun _ U o U' => OwnEnd U (fun v h L => v = some (.int (1 : Int32)) ∧ Fr n0 L ∧ h = h0) ({ frames := 0, cells := 0, slots := 0, locals := 0 } : Room).cells ({ frames := 0, cells := 0, slots := 0, locals := 0 } : Room).slots o U') := by
  refine MetFree.of_bodySF (plainFor_of_name cpp_pn) hisR ?_
  intro p e s m args below meth c s₁ Bd hml0 hP hK
  obtain ⟨rfl, hZ, hh⟩ := hP
  have hx := Bd.exec
  have hby := Bd.bytes
  have hml : c.maxLocals = 5 := hml0
  have hown : s.vm.findClass "java/lang/StringCoding" = some m.cls := findClass_of_methodNamed Bd.named
  have hnm := (name_of_methodNamed Bd.named Bd.method).1
  have X0 : Stand p l e ({ frames := 0, cells := 0, slots := 0, locals := 0 } : Room) s m #[(.ref t1), (.int (0 : Int32)), (.int (1 : Int32))] below meth c s₁ [] 0 0 := Stand.of_body Bd
  have e0 : s₁.heap = h0 := by rw [← hh, Bd.state]; rfl
  have N0 := Fr.nil n0
  have KP0 := Keep.refl h0 []
  refine own_go (Q := (OwnEnd s (fun v h L => v = some (.int (1 : Int32)) ∧ Fr n0 L ∧ h = h0) ({ frames := 0, cells := 0, slots := 0, locals := 0 } : Room).cells ({ frames := 0, cells := 0, slots := 0, locals := 0 } : Room).slots)) ?_
  refine own_back (fun t k => castTop (cpp_ef m t1 (0 : Int32) (1 : Int32)) k) ?_
  show OwnGo p e below (s₁.setTop (mkF m 0 #[.val (.ref t1), .val (.int (0 : Int32)), .val (.int (1 : Int32)), .unset, .unset] [])) _
  refine own_back (fun t k => XS.iloadN X0.here hx rfl (hb hby cpp_d0) rfl k) ?_
  show OwnGo p e below (s₁.setTop (mkF m 1 #[.val (.ref t1), .val (.int (0 : Int32)), .val (.int (1 : Int32)), .unset, .unset] [(.int (0 : Int32))])) _
  refine own_back (fun t k => XS.iloadN X0.here hx rfl (hb hby cpp_d1) rfl k) ?_
  show OwnGo p e below (s₁.setTop (mkF m 2 #[.val (.ref t1), .val (.int (0 : Int32)), .val (.int (1 : Int32)), .unset, .unset] [(.int (1 : Int32)), (.int (0 : Int32))])) _
  refine own_back (fun t k => XS.iadd X0.here hx rfl (hb hby cpp_d2) rfl k) ?_
  show OwnGo p e below (s₁.setTop (mkF m 3 #[.val (.ref t1), .val (.int (0 : Int32)), .val (.int (1 : Int32)), .unset, .unset] [(.int (1 : Int32))])) _
  refine own_back (fun t k => XS.istoreN X0.here hx rfl (hb hby cpp_d3) rfl (l' := #[.val (.ref t1), .val (.int (0 : Int32)), .val (.int (1 : Int32)), .val (.int (1 : Int32)), .unset]) rfl k) ?_
  show OwnGo p e below (s₁.setTop (mkF m 4 #[.val (.ref t1), .val (.int (0 : Int32)), .val (.int (1 : Int32)), .val (.int (1 : Int32)), .unset] [])) _
  refine own_back (fun t k => XS.iloadN X0.here hx rfl (hb hby cpp_d4) rfl k) ?_
  show OwnGo p e below (s₁.setTop (mkF m 5 #[.val (.ref t1), .val (.int (0 : Int32)), .val (.int (1 : Int32)), .val (.int (1 : Int32)), .unset] [(.int (0 : Int32))])) _
  refine own_back (fun t k => XS.istore X0.here hx rfl (hb hby cpp_d5) rfl (l' := #[.val (.ref t1), .val (.int (0 : Int32)), .val (.int (1 : Int32)), .val (.int (1 : Int32)), .val (.int (0 : Int32))]) rfl k) ?_
  show OwnGo p e below (s₁.setTop (mkF m 7 #[.val (.ref t1), .val (.int (0 : Int32)), .val (.int (1 : Int32)), .val (.int (1 : Int32)), .val (.int (0 : Int32))] [])) _
  refine own_back (fun t k => XS.iload X0.here hx rfl (hb hby cpp_d7) rfl k) ?_
  show OwnGo p e below (s₁.setTop (mkF m 9 #[.val (.ref t1), .val (.int (0 : Int32)), .val (.int (1 : Int32)), .val (.int (1 : Int32)), .val (.int (0 : Int32))] [(.int (0 : Int32))])) _
  refine own_back (fun t k => XS.iloadN X0.here hx rfl (hb hby cpp_d9) rfl k) ?_
  show OwnGo p e below (s₁.setTop (mkF m 10 #[.val (.ref t1), .val (.int (0 : Int32)), .val (.int (1 : Int32)), .val (.int (1 : Int32)), .val (.int (0 : Int32))] [(.int (1 : Int32)), (.int (0 : Int32))])) _
  refine own_back (fun t k => XS.icmpNo X0.here hx rfl (hb hby cpp_d10) rfl (Jvm.Free.XT.ii_ge_f (by decide)) k) ?_
  show OwnGo p e below (s₁.setTop (mkF m 13 #[.val (.ref t1), .val (.int (0 : Int32)), .val (.int (1 : Int32)), .val (.int (1 : Int32)), .val (.int (0 : Int32))] [])) _
  refine own_back (fun t k => XS.aloadN X0.here hx rfl (hb hby cpp_d13) rfl rfl k) ?_
  show OwnGo p e below (s₁.setTop (mkF m 14 #[.val (.ref t1), .val (.int (0 : Int32)), .val (.int (1 : Int32)), .val (.int (1 : Int32)), .val (.int (0 : Int32))] [(.ref t1)])) _
  refine own_back (fun t k => XS.iload X0.here hx rfl (hb hby cpp_d14) rfl k) ?_
  show OwnGo p e below (s₁.setTop (mkF m 16 #[.val (.ref t1), .val (.int (0 : Int32)), .val (.int (1 : Int32)), .val (.int (1 : Int32)), .val (.int (0 : Int32))] [(.int (0 : Int32)), (.ref t1)])) _
  obtain ⟨c427, A427, q427, S427, M427, H427, U427⟩ := id V1
  have ib428 : ¬ ((0 : Int32) < 0 ∨ c427.slots.size ≤ ((0 : Int32)).toNatClampNeg) := (inb_of S427 ⟨by decide, by decide⟩)
  refine own_back (fun t k => X0.baloadBytes hx (j := (0 : Int32)) (v := (.int y0)) (own_hat e0 A427.1) (State.isArrayOf_alike hZ.alike A427.2.1) A427.2.2 ib428 (H427.at ib428 rfl) (g := (mkF m 16 #[.val (.ref t1), .val (.int (0 : Int32)), .val (.int (1 : Int32)), .val (.int (1 : Int32)), .val (.int (0 : Int32))] [(.int (0 : Int32)), (.ref t1)])) rfl rfl (hb hby cpp_d16) t k) ?_
  show OwnGo p e below (s₁.setTop (mkF m 17 #[.val (.ref t1), .val (.int (0 : Int32)), .val (.int (1 : Int32)), .val (.int (1 : Int32)), .val (.int (0 : Int32))] [(.int y0)])) _
  refine own_back (fun t k => XS.ifYes X0.here hx rfl (pc0 := 17) (pc' := 25) rfl (hb hby cpp_d17) rfl (Jvm.Free.XT.i0_ge_t s0) (by decide) (by decide) k) ?_
  show OwnGo p e below (s₁.setTop (mkF m 25 #[.val (.ref t1), .val (.int (0 : Int32)), .val (.int (1 : Int32)), .val (.int (1 : Int32)), .val (.int (0 : Int32))] [])) _
  refine own_back (fun t k => XS.iinc X0.here hx rfl (hb hby cpp_d25) rfl (l' := #[.val (.ref t1), .val (.int (0 : Int32)), .val (.int (1 : Int32)), .val (.int (1 : Int32)), .val (.int (1 : Int32))]) rfl k) ?_
  show OwnGo p e below (s₁.setTop (mkF m 28 #[.val (.ref t1), .val (.int (0 : Int32)), .val (.int (1 : Int32)), .val (.int (1 : Int32)), .val (.int (1 : Int32))] [])) _
  refine own_back (fun t k => XS.goto X0.here hx rfl (pc0 := 28) (pc' := 7) rfl (hb hby cpp_d28) (by decide) (by decide) k) ?_
  show OwnGo p e below (s₁.setTop (mkF m 7 #[.val (.ref t1), .val (.int (0 : Int32)), .val (.int (1 : Int32)), .val (.int (1 : Int32)), .val (.int (1 : Int32))] [])) _
  refine own_back (fun t k => XS.iload X0.here hx rfl (hb hby cpp_d7) rfl k) ?_
  show OwnGo p e below (s₁.setTop (mkF m 9 #[.val (.ref t1), .val (.int (0 : Int32)), .val (.int (1 : Int32)), .val (.int (1 : Int32)), .val (.int (1 : Int32))] [(.int (1 : Int32))])) _
  refine own_back (fun t k => XS.iloadN X0.here hx rfl (hb hby cpp_d9) rfl k) ?_
  show OwnGo p e below (s₁.setTop (mkF m 10 #[.val (.ref t1), .val (.int (0 : Int32)), .val (.int (1 : Int32)), .val (.int (1 : Int32)), .val (.int (1 : Int32))] [(.int (1 : Int32)), (.int (1 : Int32))])) _
  refine own_back (fun t k => XS.icmpYes X0.here hx rfl (pc0 := 10) (pc' := 31) rfl (hb hby cpp_d10) rfl (Jvm.Free.XT.ii_ge_t (by decide)) (by decide) (by decide) k) ?_
  show OwnGo p e below (s₁.setTop (mkF m 31 #[.val (.ref t1), .val (.int (0 : Int32)), .val (.int (1 : Int32)), .val (.int (1 : Int32)), .val (.int (1 : Int32))] [])) _
  refine own_back (fun t k => XS.iloadN X0.here hx rfl (hb hby cpp_d31) rfl k) ?_
  show OwnGo p e below (s₁.setTop (mkF m 32 #[.val (.ref t1), .val (.int (0 : Int32)), .val (.int (1 : Int32)), .val (.int (1 : Int32)), .val (.int (1 : Int32))] [(.int (1 : Int32))])) _
  refine own_retI X0 hx Bd.notSynchronized Bd.returns (hb hby cpp_d32) e0 (Nat.le_of_ble_eq_true rfl) (Nat.le_of_ble_eq_true rfl) ?_
  exact ⟨rfl, N0, rfl⟩
theorem hnp_d0 : decode jdk_123_method_2_code 0 = .ok (.aload_n 0, 1) := by decide +kernel
theorem hnp_d1 : decode jdk_123_method_2_code 1 = .ok (.iload_n 1, 1) := by decide +kernel
theorem hnp_d2 : decode jdk_123_method_2_code 2 = .ok (.iload_n 2, 1) := by decide +kernel
theorem hnp_d3 : decode jdk_123_method_2_code 3 = .ok (.invokestatic 7, 3) := by decide +kernel
theorem hnp_d6 : decode jdk_123_method_2_code 6 = .ok (.iload_n 2, 1) := by decide +kernel
theorem hnp_d7 : decode jdk_123_method_2_code 7 = .ok (.if_icmp .eq 7, 3) := by decide +kernel
theorem hnp_d14 : decode jdk_123_method_2_code 14 = .ok (.iconst 0, 1) := by decide +kernel
theorem hnp_d15 : decode jdk_123_method_2_code 15 = .ok (.ireturn, 1) := by decide +kernel
theorem hnp_pn : plainName "java/lang/StringCoding" = true := by first | (simp [plainName, overriddenIn]; done) | decide +kernel
theorem hnp_pd0 : parseMethodDescriptor "([BII)I" = some ⟨[(.array .byte), .int, .int], some .int⟩ := by decide +kernel
theorem hnp_ef (m : MethodId) (x0 : Addr) (x1 : Int32) (x2 : Int32) : entryFrame m #[(.ref x0), (.int x1), (.int x2)] 3 = mkF m 0 #[.val (.ref x0), .val (.int x1), .val (.int x2)] [] := by first | (simp [entryFrame, mkF, argsToLocals, Value.category]; done) | rfl
set_option maxRecDepth 65536 in
set_option maxHeartbeats 40000000 in
theorem rm_hnp (l : Launch) (Z : State) (a0 : Array Value) (hw : ∀ d ∈ tables_1, d.before a0 Z = true) (ws : List Jvm.Cond) (t1 : Addr) (k1 : ClassId) (y0 : Int32) (h0 : Heap) (n0 : Nat) (Z0 : n0 ≤ h0.size) (V1 : Arv Z h0 t1 k1 .byte (1 : Int32) [.int y0] (.int 0)) (s0 : ¬ y0 < 0) :
    MetFree l (⟨"java/lang/StringCoding", "hasNegatives", "([BII)Z"⟩ : MethodName) (head1 (Jvm.Cond.code (⟨"java/lang/StringCoding", "hasNegatives", "([BII)Z"⟩ : MethodName) jdk_123_method_2_code 3 (some .boolean) :: ws) ({ frames := 1, cells := 0, slots := 0, locals := 20 } : Room)) (fun a U => a = #[(.ref t1), (.int (0 : Int32)), (.int (1 : Int32))] ∧ Z.Warmed39 U.vm ∧ U.heap = h0) (fun _ _ _ _ _ => True) (fun _ U o U' => OwnEnd U (fun v h L => v = some (.int (0 : Int32)) ∧ Fr n0 L ∧ h = h0) ({ frames := 1, cells := 0, slots := 0, locals := 20 } : Room).cells ({ frames := 1, cells := 0, slots := 0, locals := 20 } : Room).slots o U') := by
  refine MetFree.of_bodySF (plainFor_of_name hnp_pn) hisR ?_
  intro p e s m args below meth c s₁ Bd hml0 hP hK
  obtain ⟨rfl, hZ, hh⟩ := hP
  have hx := Bd.exec
  have hby := Bd.bytes
  have hml : c.maxLocals = 3 := hml0
  have hown : s.vm.findClass "java/lang/StringCoding" = some m.cls := findClass_of_methodNamed Bd.named
  have hnm := (name_of_methodNamed Bd.named Bd.method).1
  have X0 : Stand p l e ({ frames := 1, cells := 0, slots := 0, locals := 20 } : Room) s m #[(.ref t1), (.int (0 : Int32)), (.int (1 : Int32))] below meth c s₁ [] 0 0 := Stand.of_body Bd
  have e0 : s₁.heap = h0 := by rw [← hh, Bd.state]; rfl
  have N0 := Fr.nil n0
  have KP0 := Keep.refl h0 []
  refine own_go (Q := (OwnEnd s (fun v h L => v = some (.int (0 : Int32)) ∧ Fr n0 L ∧ h = h0) ({ frames := 1, cells := 0, slots := 0, locals := 20 } : Room).cells ({ frames := 1, cells := 0, slots := 0, locals := 20 } : Room).slots)) ?_
  refine own_back (fun t k => castTop (hnp_ef m t1 (0 : Int32) (1 : Int32)) k) ?_
  show OwnGo p e below (s₁.setTop (mkF m 0 #[.val (.ref t1), .val (.int (0 : Int32)), .val (.int (1 : Int32))] [])) _
  refine own_back (fun t k => XS.aloadN X0.here hx rfl (hb hby hnp_d0) rfl rfl k) ?_
  show OwnGo p e below (s₁.setTop (mkF m 1 #[.val (.ref t1), .val (.int (0 : Int32)), .val (.int (1 : Int32))] [(.ref t1)])) _
  refine own_back (fun t k => XS.iloadN X0.here hx rfl (hb hby hnp_d1) rfl k) ?_
  show OwnGo p e below (s₁.setTop (mkF m 2 #[.val (.ref t1), .val (.int (0 : Int32)), .val (.int (1 : Int32))] [(.int (0 : Int32)), (.ref t1)])) _
  refine own_back (fun t k => XS.iloadN X0.here hx rfl (hb hby hnp_d2) rfl k) ?_
  show OwnGo p e below (s₁.setTop (mkF m 3 #[.val (.ref t1), .val (.int (0 : Int32)), .val (.int (1 : Int32))] [(.int (1 : Int32)), (.int (0 : Int32)), (.ref t1)])) _
  obtain ⟨_, _, ⟨T429, L429, k429, n429⟩, -, X429, ⟨Lc429, hQ429, l429, y429, z429⟩, st429⟩ := Jvm.LawKit.callS X0 hx (y := (⟨"java/lang/StringCoding", "countPositives", "([BII)I"⟩ : MethodName)) hown (mvT hZ (hw _ (List.mem_of_getElem? (i := 72) rfl))) (mvT hZ (hw _ (List.mem_of_getElem? (i := 73) rfl))) (mvT hZ (hw _ (List.mem_of_getElem? (i := 70) rfl))) (mvT hZ (hw _ (List.mem_of_getElem? (i := 74) rfl))) (by decide) (own_backN (W := 0) (rm_cpp l Z a0 hw [] t1 k1 y0 h0 n0 Z0 V1 s0) hZ (hw _ (List.mem_of_getElem? (i := 74) rfl)) (hw _ (List.mem_of_getElem? (i := 70) rfl)) (by decide) (by decide)) (g := (mkF m 3 #[.val (.ref t1), .val (.int (0 : Int32)), .val (.int (1 : Int32))] [(.int (1 : Int32)), (.int (0 : Int32)), (.ref t1)])) rfl (by rw [hml]; rfl) (argsL := [(.ref t1), (.int (0 : Int32)), (.int (1 : Int32))]) (rest := []) (lenOf hnp_pd0 rfl) rfl (by show 2 * 0 + _ ≤ _; exact Nat.le_of_eq rfl) (hb hby hnp_d3) (fun _ _ => ⟨rfl, e0, Nat.le_of_ble_eq_true rfl, Nat.le_of_ble_eq_true rfl⟩)
  dsimp only [Pt.U, Pt.locs, Pt.cells, Pt.slots] at X429 l429 y429 z429 st429 hQ429
  subst l429 y429 z429
  obtain ⟨rfl, N429q, hh429⟩ := hQ429
  refine own_back st429 ?_
  have N429 := Fr.app N0 N429q
  show OwnGo p e below (T429.setTop (mkF m 6 #[.val (.ref t1), .val (.int (0 : Int32)), .val (.int (1 : Int32))] [(.int (1 : Int32))])) _
  refine own_back (fun t k => XS.iloadN X429.here hx rfl (hb hby hnp_d6) rfl k) ?_
  show OwnGo p e below (T429.setTop (mkF m 7 #[.val (.ref t1), .val (.int (0 : Int32)), .val (.int (1 : Int32))] [(.int (1 : Int32)), (.int (1 : Int32))])) _
  refine own_back (fun t k => XS.icmpYes X429.here hx rfl (pc0 := 7) (pc' := 14) rfl (hb hby hnp_d7) rfl (Jvm.Free.XT.ii_eq_t (by decide)) (by decide) (by decide) k) ?_
  show OwnGo p e below (T429.setTop (mkF m 14 #[.val (.ref t1), .val (.int (0 : Int32)), .val (.int (1 : Int32))] [])) _
  refine own_back (fun t k => XS.iconst X429.here hx rfl (hb hby hnp_d14) k) ?_
  show OwnGo p e below (T429.setTop (mkF m 15 #[.val (.ref t1), .val (.int (0 : Int32)), .val (.int (1 : Int32))] [(.int (0 : Int32))])) _
  refine own_retN X429 hx Bd.notSynchronized (t := .boolean) (z := (0 : Int32)) Bd.returns (by simp) rfl (hb hby hnp_d15) hh429 (Nat.le_of_ble_eq_true rfl) (Nat.le_of_ble_eq_true rfl) ?_
  exact ⟨rfl, N429, rfl⟩
theorem eup_d0 : decode jdk_42_method_46_code 0 = .ok (.iload_n 0, 1) := by decide +kernel
theorem eup_d1 : decode jdk_42_method_46_code 1 = .ok (.iconst 1, 1) := by decide +kernel
theorem eup_d2 : decode jdk_42_method_46_code 2 = .ok (.if_icmp .ne 9, 3) := by decide +kernel
theorem eup_d11 : decode jdk_42_method_46_code 11 = .ok (.aload_n 1, 1) := by decide +kernel
theorem eup_d12 : decode jdk_42_method_46_code 12 = .ok (.iconst 0, 1) := by decide +kernel
theorem eup_d13 : decode jdk_42_method_46_code 13 = .ok (.aload_n 1, 1) := by decide +kernel
theorem eup_d14 : decode jdk_42_method_46_code 14 = .ok (.arraylength, 1) := by decide +kernel
theorem eup_d15 : decode jdk_42_method_46_code 15 = .ok (.invokestatic 128, 3) := by decide +kernel
theorem eup_d18 : decode jdk_42_method_46_code 18 = .ok (.ifCond .ne 11, 3) := by decide +kernel
theorem eup_d21 : decode jdk_42_method_46_code 21 = .ok (.aload_n 1, 1) := by decide +kernel
theorem eup_d22 : decode jdk_42_method_46_code 22 = .ok (.invokevirtual 279, 3) := by decide +kernel
theorem eup_d25 : decode jdk_42_method_46_code 25 = .ok (.checkcast 280, 3) := by decide +kernel
theorem eup_d28 : decode jdk_42_method_46_code 28 = .ok (.areturn, 1) := by decide +kernel
theorem eup_pn : plainName "java/lang/String" = true := by first | (simp [plainName, overriddenIn]; done) | decide +kernel
theorem eup_pd0 : parseMethodDescriptor "([BII)Z" = some ⟨[(.array .byte), .int, .int], some .boolean⟩ := by decide +kernel
theorem eup_ef (m : MethodId) (x0 : Int32) (x1 : Addr) (x2 : Int32) : entryFrame m #[(.int x0), (.ref x1), (.int x2)] 9 = mkF m 0 #[.val (.int x0), .val (.ref x1), .val (.int x2), .unset, .unset, .unset, .unset, .unset, .unset] [] := by first | (simp [entryFrame, mkF, argsToLocals, Value.category]; done) | rfl
set_option maxRecDepth 65536 in
set_option maxHeartbeats 40000000 in
theorem rm_eup (l : Launch) (Z : State) (a0 : Array Value) (hw : ∀ d ∈ tables_1, d.before a0 Z = true) (ws : List Jvm.Cond) (t1 : Addr) (k1 : ClassId) (y0 : Int32) (h0 : Heap) (n0 : Nat) (Z0 : n0 ≤ h0.size) (OL : Old Z n0 h0) (V1 : Arv Z h0 t1 k1 .byte (1 : Int32) [.int y0] (.int 0)) (X1 : Exa Z h0 t1 "[B") (s0 : ¬ y0 < 0) :
    MetFree l (⟨"java/lang/String", "encodeUTF8", "(B[BZ)[B"⟩ : MethodName) (head1 (Jvm.Cond.code (⟨"java/lang/String", "encodeUTF8", "(B[BZ)[B"⟩ : MethodName) jdk_42_method_46_code 9 (some (.array .byte)) :: ws) ({ frames := 2, cells := 2, slots := 8, locals := 90 } : Room)) (fun a U => a = #[(.int (0 : Int32)), (.ref t1), (.int (1 : Int32))] ∧ Z.Warmed39 U.vm ∧ U.heap = h0) (fun _ _ _ _ _ => True) (fun _ U o U' => OwnEnd U (fun v h L => ∃ b, v = some (.ref b) ∧ Fr n0 L ∧ Ext h0 h) ({ frames := 2, cells := 2, slots := 8, locals := 90 } : Room).cells ({ frames := 2, cells := 2, slots := 8, locals := 90 } : Room).slots o U') := by
  refine MetFree.of_bodySF (plainFor_of_name eup_pn) hisR ?_
  intro p e s m args below meth c s₁ Bd hml0 hP hK
  obtain ⟨rfl, hZ, hh⟩ := hP
  have hx := Bd.exec
  have hby := Bd.bytes
  have hml : c.maxLocals = 9 := hml0
  have hown : s.vm.findClass "java/lang/String" = some m.cls := findClass_of_methodNamed Bd.named
  have hnm := (name_of_methodNamed Bd.named Bd.method).1
  have X0 : Stand p l e ({ frames := 2, cells := 2, slots := 8, locals := 90 } : Room) s m #[(.int (0 : Int32)), (.ref t1), (.int (1 : Int32))] below meth c s₁ [] 0 0 := Stand.of_body Bd
  have e0 : s₁.heap = h0 := by rw [← hh, Bd.state]; rfl
  have N0 := Fr.nil n0
  have KP0 := Keep.refl h0 []
  refine own_go (Q := (OwnEnd s (fun v h L => ∃ b, v = some (.ref b) ∧ Fr n0 L ∧ Ext h0 h) ({ frames := 2, cells := 2, slots := 8, locals := 90 } : Room).cells ({ frames := 2, cells := 2, slots := 8, locals := 90 } : Room).slots)) ?_
  refine own_back (fun t k => castTop (eup_ef m (0 : Int32) t1 (1 : Int32)) k) ?_
  show OwnGo p e below (s₁.setTop (mkF m 0 #[.val (.int (0 : Int32)), .val (.ref t1), .val (.int (1 : Int32)), .unset, .unset, .unset, .unset, .unset, .unset] [])) _
  refine own_back (fun t k => XS.iloadN X0.here hx rfl (hb hby eup_d0) rfl k) ?_
  refine own_back (fun t k => XS.iconst X0.here hx rfl (hb hby eup_d1) k) ?_
  refine own_back (fun t k => XS.icmpYes X0.here hx rfl (pc0 := 2) (pc' := 11) rfl (hb hby eup_d2) rfl (Jvm.Free.XT.ii_ne_t (by decide)) (by decide) (by decide) k) ?_
  show OwnGo p e below (s₁.setTop (mkF m 11 #[.val (.int (0 : Int32)), .val (.ref t1), .val (.int (1 : Int32)), .unset, .unset, .unset, .unset, .unset, .unset] [])) _
  refine own_back (fun t k => XS.aloadN X0.here hx rfl (hb hby eup_d11) rfl rfl k) ?_
  show OwnGo p e below (s₁.setTop (mkF m 12 #[.val (.int (0 : Int32)), .val (.ref t1), .val (.int (1 : Int32)), .unset, .unset, .unset, .unset, .unset, .unset] [(.ref t1)])) _
  refine own_back (fun t k => XS.iconst X0.here hx rfl (hb hby eup_d12) k) ?_
  refine own_back (fun t k => XS.aloadN X0.here hx rfl (hb hby eup_d13) rfl rfl k) ?_
  obtain ⟨c430, A430, q430, S430, M430, H430, U430⟩ := id V1
  refine own_back (fun t k => X0.arraylength hx (own_hat e0 A430.1) (State.isArrayOf_alike hZ.alike A430.2.1) (g := (mkF m 14 #[.val (.int (0 : Int32)), .val (.ref t1), .val (.int (1 : Int32)), .unset, .unset, .unset, .unset, .unset, .unset] [(.ref t1), (.int (0 : Int32)), (.ref t1)])) rfl rfl (hb hby eup_d14) t k) ?_
  rw [len_of S430 M430]
  show OwnGo p e below (s₁.setTop (mkF m 15 #[.val (.int (0 : Int32)), .val (.ref t1), .val (.int (1 : Int32)), .unset, .unset, .unset, .unset, .unset, .unset] [(.int (1 : Int32)), (.int (0 : Int32)), (.ref t1)])) _
  obtain ⟨_, _, ⟨T431, L431, k431, n431⟩, -, X431, ⟨Lc431, hQ431, l431, y431, z431⟩, st431⟩ := Jvm.LawKit.callS X0 hx (y := (⟨"java/lang/StringCoding", "hasNegatives", "([BII)Z"⟩ : MethodName)) hown (mvT hZ (hw _ (List.mem_of_getElem? (i := 68) rfl))) (mvT hZ (hw _ (List.mem_of_getElem? (i := 69) rfl))) (mvT hZ (hw _ (List.mem_of_getElem? (i := 70) rfl))) (mvT hZ (hw _ (List.mem_of_getElem? (i := 71) rfl))) (by decide) (own_backN (W := 0) (rm_hnp l Z a0 hw [] t1 k1 y0 h0 n0 Z0 V1 s0) hZ (hw _ (List.mem_of_getElem? (i := 71) rfl)) (hw _ (List.mem_of_getElem? (i := 70) rfl)) (by decide) (by decide)) (g := (mkF m 15 #[.val (.int (0 : Int32)), .val (.ref t1), .val (.int (1 : Int32)), .unset, .unset, .unset, .unset, .unset, .unset] [(.int (1 : Int32)), (.int (0 : Int32)), (.ref t1)])) rfl (by rw [hml]; rfl) (argsL := [(.ref t1), (.int (0 : Int32)), (.int (1 : Int32))]) (rest := []) (lenOf eup_pd0 rfl) rfl (by show 2 * 0 + _ ≤ _; exact Nat.le_of_eq rfl) (hb hby eup_d15) (fun _ _ => ⟨rfl, e0, Nat.le_of_ble_eq_true rfl, Nat.le_of_ble_eq_true rfl⟩)
  dsimp only [Pt.U, Pt.locs, Pt.cells, Pt.slots] at X431 l431 y431 z431 st431 hQ431
  subst l431 y431 z431
  obtain ⟨rfl, N431q, hh431⟩ := hQ431
  refine own_back st431 ?_
  have N431 := Fr.app N0 N431q
  show OwnGo p e below (T431.setTop (mkF m 18 #[.val (.int (0 : Int32)), .val (.ref t1), .val (.int (1 : Int32)), .unset, .unset, .unset, .unset, .unset, .unset] [(.int (0 : Int32))])) _
  refine own_back (fun t k => XS.ifNo X431.here hx rfl (hb hby eup_d18) rfl (Jvm.Free.XT.i0_ne_f (by decide)) k) ?_
  show OwnGo p e below (T431.setTop (mkF m 21 #[.val (.int (0 : Int32)), .val (.ref t1), .val (.int (1 : Int32)), .unset, .unset, .unset, .unset, .unset, .unset] [])) _
  refine own_back (fun t k => XS.aloadN X431.here hx rfl (hb hby eup_d21) rfl rfl k) ?_
  obtain ⟨cv, Av, qv, Sv, Mv, Hv, Uv⟩ := id V1
  obtain ⟨T432, h432, X432, e432, E432, A432, EX432, st432⟩ := cloneA X431 hx hZ hown (hw _ (List.mem_of_getElem? (i := 75) rfl)) (hw _ (List.mem_of_getElem? (i := 76) rfl)) (hw _ (List.mem_of_getElem? (i := 80) rfl)) (hw _ (List.mem_of_getElem? (i := 78) rfl)) (hw _ (List.mem_of_getElem? (i := 79) rfl)) (hw _ (List.mem_of_getElem? (i := 81) rfl)) hh431 Av X1 (own_fitB V1 Av.1) (g := (mkF m 22 #[.val (.int (0 : Int32)), .val (.ref t1), .val (.int (1 : Int32)), .unset, .unset, .unset, .unset, .unset, .unset] [(.ref t1)])) rfl (by rw [hml]; rfl) rfl (hb hby eup_d22) (by decide) (W := 0) (cap := 1) (by show 2 * 0 + _ ≤ _; exact Nat.le_of_eq rfl) (by decide) (by rw [Sv]; decide) (Nat.le_of_ble_eq_true rfl) (Nat.le_of_ble_eq_true rfl)
  obtain ⟨b432, g432⟩ : ∃ z, z = h0.size := ⟨_, rfl⟩
  have ge433 : n0 ≤ b432 := Nat.le_trans Z0 (Nat.le_of_eq g432.symm)
  have sz434 : h0.size ≤ b432 := Nat.le_trans KP0.1 (Nat.le_of_eq g432.symm)
  rw [← g432] at A432 EX432 st432
  have O435 := OL.ext E432
  have KP436 := KP0.ext E432
  have Zs437 := Nat.le_trans Z0 E432.1
  have f438 := V1.ext E432
  refine own_back st432 ?_
  show OwnGo p e below (T432.setTop (mkF m 25 #[.val (.int (0 : Int32)), .val (.ref t1), .val (.int (1 : Int32)), .unset, .unset, .unset, .unset, .unset, .unset] [(.ref b432)])) _
  obtain ⟨T439, X439, e439, st439⟩ := castY X432 hx hZ hown (hw _ (List.mem_of_getElem? (i := 82) rfl)) e432 (Ins.self EX432) (g := (mkF m 25 #[.val (.int (0 : Int32)), .val (.ref t1), .val (.int (1 : Int32)), .unset, .unset, .unset, .unset, .unset, .unset] [(.ref b432)])) rfl rfl (hb hby eup_d25)
  refine own_back st439 ?_
  refine own_retA X439 hx Bd.notSynchronized Bd.returns rfl rfl (hb hby eup_d28) e439 (Nat.le_of_ble_eq_true rfl) (Nat.le_of_ble_eq_true rfl) ?_
  exact ⟨_, rfl, N431, own_ext KP436⟩
theorem encp_d0 : decode jdk_42_method_18_code 0 = .ok (.aload_n 0, 1) := by decide +kernel
theorem encp_d1 : decode jdk_42_method_18_code 1 = .ok (.getstatic 86, 3) := by decide +kernel
theorem encp_d4 : decode jdk_42_method_18_code 4 = .ok (.if_acmp .ne 10, 3) := by decide +kernel
theorem encp_d7 : decode jdk_42_method_18_code 7 = .ok (.iload_n 1, 1) := by decide +kernel
theorem encp_d8 : decode jdk_42_method_18_code 8 = .ok (.aload_n 2, 1) := by decide +kernel
theorem encp_d9 : decode jdk_42_method_18_code 9 = .ok (.iconst 1, 1) := by decide +kernel
theorem encp_d10 : decode jdk_42_method_18_code 10 = .ok (.invokestatic 252, 3) := by decide +kernel
theorem encp_d13 : decode jdk_42_method_18_code 13 = .ok (.areturn, 1) := by decide +kernel
theorem encp_pn : plainName "java/lang/String" = true := by first | (simp [plainName, overriddenIn]; done) | decide +kernel
theorem encp_pd0 : parseMethodDescriptor "(B[BZ)[B" = some ⟨[.byte, (.array .byte), .boolean], some (.array .byte)⟩ := by decide +kernel
theorem encp_ef (m : MethodId) (x0 : Addr) (x1 : Int32) (x2 : Addr) : entryFrame m #[(.ref x0), (.int x1), (.ref x2)] 3 = mkF m 0 #[.val (.ref x0), .val (.int x1), .val (.ref x2)] [] := by first | (simp [entryFrame, mkF, argsToLocals, Value.category]; done) | rfl
set_option maxRecDepth 65536 in
set_option maxHeartbeats 40000000 in
theorem rm_encp (l : Launch) (Z : State) (a0 : Array Value) (hw : ∀ d ∈ tables_1, d.before a0 Z = true) (ws : List Jvm.Cond) (t1 : Addr) (k1 : ClassId) (y0 : Int32) (w8 : Addr) (h0 : Heap) (n0 : Nat) (Z0 : n0 ≤ h0.size) (OL : Old Z n0 h0) (V1 : Arv Z h0 t1 k1 .byte (1 : Int32) [.int y0] (.int 0)) (X1 : Exa Z h0 t1 "[B") (s0 : ¬ y0 < 0) (SI : Sta Z Z.heap "sun/nio/cs/UTF_8" "INSTANCE" "Lsun/nio/cs/UTF_8;" (.ref w8)) :
    MetFree l (⟨"java/lang/String", "encode", "(Ljava/nio/charset/Charset;B[B)[B"⟩ : MethodName) (head1 (Jvm.Cond.code (⟨"java/lang/String", "encode", "(Ljava/nio/charset/Charset;B[B)[B"⟩ : MethodName) jdk_42_method_18_code 3 (some (.array .byte)) :: ws) ({ frames := 3, cells := 2, slots := 8, locals := 115 } : Room)) (fun a U => a = #[(.ref w8), (.int (0 : Int32)), (.ref t1)] ∧ Z.Warmed39 U.vm ∧ U.heap = h0) (fun _ _ _ _ _ => True) (fun _ U o U' => OwnEnd U (fun v h L => ∃ b, v = some (.ref b) ∧ Fr n0 L ∧ Ext h0 h) ({ frames := 3, cells := 2, slots := 8, locals := 115 } : Room).cells ({ frames := 3, cells := 2, slots := 8, locals := 115 } : Room).slots o U') := by
  refine MetFree.of_bodySF (plainFor_of_name encp_pn) hisR ?_
  intro p e s m args below meth c s₁ Bd hml0 hP hK
  obtain ⟨rfl, hZ, hh⟩ := hP
  have hx := Bd.exec
  have hby := Bd.bytes
  have hml : c.maxLocals = 3 := hml0
  have hown : s.vm.findClass "java/lang/String" = some m.cls := findClass_of_methodNamed Bd.named
  have hnm := (name_of_methodNamed Bd.named Bd.method).1
  have X0 : Stand p l e ({ frames := 3, cells := 2, slots := 8, locals := 115 } : Room) s m #[(.ref w8), (.int (0 : Int32)), (.ref t1)] below meth c s₁ [] 0 0 := Stand.of_body Bd
  have e0 : s₁.heap = h0 := by rw [← hh, Bd.state]; rfl
  have N0 := Fr.nil n0
  have KP0 := Keep.refl h0 []
  refine own_go (Q := (OwnEnd s (fun v h L => ∃ b, v = some (.ref b) ∧ Fr n0 L ∧ Ext h0 h) ({ frames := 3, cells := 2, slots := 8, locals := 115 } : Room).cells ({ frames := 3, cells := 2, slots := 8, locals := 115 } : Room).slots)) ?_
  refine own_back (fun t k => castTop (encp_ef m w8 (0 : Int32) t1) k) ?_
  show OwnGo p e below (s₁.setTop (mkF m 0 #[.val (.ref w8), .val (.int (0 : Int32)), .val (.ref t1)] [])) _
  refine own_back (fun t k => XS.aloadN X0.here hx rfl (hb hby encp_d0) rfl rfl k) ?_
  show OwnGo p e below (s₁.setTop (mkF m 1 #[.val (.ref w8), .val (.int (0 : Int32)), .val (.ref t1)] [(.ref w8)])) _
  obtain ⟨T440, X440, e440, st440⟩ := getS2 X0 hx hZ hown (host := "") (Or.inl (hw _ (List.mem_of_getElem? (i := 63) rfl))) Via.refl e0 (SI.ext OL.2) (g := (mkF m 1 #[.val (.ref w8), .val (.int (0 : Int32)), .val (.ref t1)] [(.ref w8)])) rfl (hb hby encp_d1)
  refine own_back st440 ?_
  show OwnGo p e below (T440.setTop (mkF m 4 #[.val (.ref w8), .val (.int (0 : Int32)), .val (.ref t1)] [(.ref w8), (.ref w8)])) _
  refine own_back (fun t k => Jvm.RoadKit.acmp (g := (mkF m 4 #[.val (.ref w8), .val (.int (0 : Int32)), .val (.ref t1)] [(.ref w8), (.ref w8)])) X440 hx rfl rfl rfl (pc0 := 4) (pc' := 7) (same := true) rfl (hb hby encp_d4) rfl (decide_eq_true rfl) (by decide) (by decide) k) ?_
  show OwnGo p e below (T440.setTop (mkF m 7 #[.val (.ref w8), .val (.int (0 : Int32)), .val (.ref t1)] [])) _
  refine own_back (fun t k => XS.iloadN X440.here hx rfl (hb hby encp_d7) rfl k) ?_
  show OwnGo p e below (T440.setTop (mkF m 8 #[.val (.ref w8), .val (.int (0 : Int32)), .val (.ref t1)] [(.int (0 : Int32))])) _
  refine own_back (fun t k => XS.aloadN X440.here hx rfl (hb hby encp_d8) rfl rfl k) ?_
  show OwnGo p e below (T440.setTop (mkF m 9 #[.val (.ref w8), .val (.int (0 : Int32)), .val (.ref t1)] [(.ref t1), (.int (0 : Int32))])) _
  refine own_back (fun t k => XS.iconst X440.here hx rfl (hb hby encp_d9) k) ?_
  show OwnGo p e below (T440.setTop (mkF m 10 #[.val (.ref w8), .val (.int (0 : Int32)), .val (.ref t1)] [(.int (1 : Int32)), (.ref t1), (.int (0 : Int32))])) _
  obtain ⟨_, _, ⟨T441, L441, k441, n441⟩, -, X441, ⟨Lc441, hQ441, l441, y441, z441⟩, st441⟩ := Jvm.LawKit.callS X440 hx (y := (⟨"java/lang/String", "encodeUTF8", "(B[BZ)[B"⟩ : MethodName)) hown (mvT hZ (hw _ (List.mem_of_getElem? (i := 65) rfl))) (mvT hZ (hw _ (List.mem_of_getElem? (i := 66) rfl))) (mvT hZ (hw _ (List.mem_of_getElem? (i := 6) rfl))) (mvT hZ (hw _ (List.mem_of_getElem? (i := 67) rfl))) (by decide) (own_backN (W := 0) (rm_eup l Z a0 hw [] t1 k1 y0 h0 n0 Z0 OL V1 X1 s0) hZ (hw _ (List.mem_of_getElem? (i := 67) rfl)) (hw _ (List.mem_of_getElem? (i := 6) rfl)) (by decide) (by decide)) (g := (mkF m 10 #[.val (.ref w8), .val (.int (0 : Int32)), .val (.ref t1)] [(.int (1 : Int32)), (.ref t1), (.int (0 : Int32))])) rfl (by rw [hml]; rfl) (argsL := [(.int (0 : Int32)), (.ref t1), (.int (1 : Int32))]) (rest := []) (lenOf encp_pd0 rfl) rfl (by show 2 * 0 + _ ≤ _; exact Nat.le_of_eq rfl) (hb hby encp_d10) (fun _ _ => ⟨rfl, e440, Nat.le_of_ble_eq_true rfl, Nat.le_of_ble_eq_true rfl⟩)
  dsimp only [Pt.U, Pt.locs, Pt.cells, Pt.slots] at X441 l441 y441 z441 st441 hQ441
  subst l441 y441 z441
  obtain ⟨bq441, rfl, N441q, E441⟩ := hQ441
  refine own_back st441 ?_
  have N441 := Fr.app N0 N441q
  have O442 := OL.ext E441
  have KP443 := KP0.ext E441
  have Zs444 := Nat.le_trans Z0 E441.1
  have f445 := V1.ext E441
  show OwnGo p e below (T441.setTop (mkF m 13 #[.val (.ref w8), .val (.int (0 : Int32)), .val (.ref t1)] [(.ref bq441)])) _
  refine own_retA X441 hx Bd.notSynchronized Bd.returns rfl rfl (hb hby encp_d13) rfl (Nat.le_of_ble_eq_true rfl) (Nat.le_of_ble_eq_true rfl) ?_
  exact ⟨_, rfl, N441, own_ext KP443⟩
theorem cpnn_d0 : decode jdk_123_method_3_code 0 = .ok (.iload_n 1, 1) := by decide +kernel
theorem cpnn_d1 : decode jdk_123_method_3_code 1 = .ok (.iload_n 2, 1) := by decide +kernel
theorem cpnn_d2 : decode jdk_123_method_3_code 2 = .ok (.iadd, 1) := by decide +kernel
theorem cpnn_d3 : decode jdk_123_method_3_code 3 = .ok (.istore_n 3, 1) := by decide +kernel
theorem cpnn_d4 : decode jdk_123_method_3_code 4 = .ok (.iload_n 1, 1) := by decide +kernel
theorem cpnn_d5 : decode jdk_123_method_3_code 5 = .ok (.istore 4, 2) := by decide +kernel
theorem cpnn_d7 : decode jdk_123_method_3_code 7 = .ok (.iload 4, 2) := by decide +kernel
theorem cpnn_d9 : decode jdk_123_method_3_code 9 = .ok (.iload_n 3, 1) := by decide +kernel
theorem cpnn_d10 : decode jdk_123_method_3_code 10 = .ok (.if_icmp .ge 21, 3) := by decide +kernel
theorem cpnn_d13 : decode jdk_123_method_3_code 13 = .ok (.aload_n 0, 1) := by decide +kernel
theorem cpnn_d14 : decode jdk_123_method_3_code 14 = .ok (.iload 4, 2) := by decide +kernel
theorem cpnn_d16 : decode jdk_123_method_3_code 16 = .ok (.baload, 1) := by decide +kernel
theorem cpnn_d17 : decode jdk_123_method_3_code 17 = .ok (.ifCond .ge 8, 3) := by decide +kernel
theorem cpnn_d20 : decode jdk_123_method_3_code 20 = .ok (.iload 4, 2) := by decide +kernel
theorem cpnn_d22 : decode jdk_123_method_3_code 22 = .ok (.iload_n 1, 1) := by decide +kernel
theorem cpnn_d23 : decode jdk_123_method_3_code 23 = .ok (.isub, 1) := by decide +kernel
theorem cpnn_d24 : decode jdk_123_method_3_code 24 = .ok (.ireturn, 1) := by decide +kernel
theorem cpnn_pn : plainName "java/lang/StringCoding" = true := by first | (simp [plainName, overriddenIn]; done) | decide +kernel
theorem cpnn_ef (m : MethodId) (x0 : Addr) (x1 : Int32) (x2 : Int32) : entryFrame m #[(.ref x0), (.int x1), (.int x2)] 5 = mkF m 0 #[.val (.ref x0), .val (.int x1), .val (.int x2), .unset, .unset] [] := by first | (simp [entryFrame, mkF, argsToLocals, Value.category]; done) | rfl
set_option maxRecDepth 65536 in
set_option maxHeartbeats 40000000 in
theorem rm_cpnn (l : Launch) (Z : State) (a0 : Array Value) (hw : ∀ d ∈ tables_1, d.before a0 Z = true) (ws : List Jvm.Cond) (t1 : Addr) (k1 : ClassId) (y0 : Int32) (y1 : Int32) (h0 : Heap) (n0 : Nat) (Z0 : n0 ≤ h0.size) (V1 : Arv Z h0 t1 k1 .byte (2 : Int32) [.int y0, .int y1] (.int 0)) (s0 : y0 < 0) (s1 : y1 < 0) :
    MetFree l (⟨"java/lang/StringCoding", "countPositives", "([BII)I"⟩ : MethodName) (head1 (Jvm.Cond.code (⟨"java/lang/StringCoding", "countPositives", "([BII)I"⟩ : MethodName) jdk_123_method_3_code 5 (some .int) :: ws) ({ frames := 0, cells := 0, slots := 0, locals := 0 } : Room)) (fun a U => a = #[(.ref t1), (.int (0 : Int32)), (.int (2 : Int32))] ∧ Z.Warmed39 U.vm ∧ U.heap = h0) (fun _ _ _ _ _ => True) (fun _ U o U' => OwnEnd U (fun v h L => v = some (.int (0 : Int32)) ∧ Fr n0 L ∧ h = h0) ({ frames := 0, cells := 0, slots := 0, locals := 0 } : Room).cells ({ frames := 0, cells := 0, slots := 0, locals := 0 } : Room).slots o U') := by
  refine MetFree.of_bodySF (plainFor_of_name cpnn_pn) hisR ?_
  intro p e s m args below meth c s₁ Bd hml0 hP hK
  obtain ⟨rfl, hZ, hh⟩ := hP
  have hx := Bd.exec
  have hby := Bd.bytes
  have hml : c.maxLocals = 5 := hml0
  have hown : s.vm.findClass "java/lang/StringCoding" = some m.cls := findClass_of_methodNamed Bd.named
  have hnm := (name_of_methodNamed Bd.named Bd.method).1
  have X0 : Stand p l e ({ frames := 0, cells := 0, slots := 0, locals := 0 } : Room) s m #[(.ref t1), (.int (0 : Int32)), (.int (2 : Int32))] below meth c s₁ [] 0 0 := Stand.of_body Bd
  have e0 : s₁.heap = h0 := by rw [← hh, Bd.state]; rfl
  have N0 := Fr.nil n0
  have KP0 := Keep.refl h0 []
  refine own_go (Q := (OwnEnd s (fun v h L => v = some (.int (0 : Int32)) ∧ Fr n0 L ∧ h = h0) ({ frames := 0, cells := 0, slots := 0, locals := 0 } : Room).cells ({ frames := 0, cells := 0, slots := 0, locals := 0 } : Room).slots)) ?_
  refine own_back (fun t k => castTop (cpnn_ef m t1 (0 : Int32) (2 : Int32)) k) ?_
  show OwnGo p e below (s₁.setTop (mkF m 0 #[.val (.ref t1), .val (.int (0 : Int32)), .val (.int (2 : Int32)), .unset, .unset] [])) _
  refine own_back (fun t k => XS.iloadN X0.here hx rfl (hb hby cpnn_d0) rfl k) ?_
  show OwnGo p e below (s₁.setTop (mkF m 1 #[.val (.ref t1), .val (.int (0 : Int32)), .val (.int (2 : Int32)), .unset, .unset] [(.int (0 : Int32))])) _
  refine own_back (fun t k => XS.iloadN X0.here hx rfl (hb hby cpnn_d1) rfl k) ?_
  show OwnGo p e below (s₁.setTop (mkF m 2 #[.val (.ref t1), .val (.int (0 : Int32)), .val (.int (2 : Int32)), .unset, .unset] [(.int (2 : Int32)), (.int (0 : Int32))])) _
  refine own_back (fun t k => XS.iadd X0.here hx rfl (hb hby cpnn_d2) rfl k) ?_
  show OwnGo p e below (s₁.setTop (mkF m 3 #[.val (.ref t1), .val (.int (0 : Int32)), .val (.int (2 : Int32)), .unset, .unset] [(.int (2 : Int32))])) _
  refine own_back (fun t k => XS.istoreN X0.here hx rfl (hb hby cpnn_d3) rfl (l' := #[.val (.ref t1), .val (.int (0 : Int32)), .val (.int (2 : Int32)), .val (.int (2 : Int32)), .unset]) rfl k) ?_
  show OwnGo p e below (s₁.setTop (mkF m 4 #[.val (.ref t1), .val (.int (0 : Int32)), .val (.int (2 : Int32)), .val (.int (2 : Int32)), .unset] [])) _
  refine own_back (fun t k => XS.iloadN X0.here hx rfl (hb hby cpnn_d4) rfl k) ?_
  show OwnGo p e below (s₁.setTop (mkF m 5 #[.val (.ref t1), .val (.int (0 : Int32)), .val (.int (2 : Int32)), .val (.int (2 : Int32)), .unset] [(.int (0 : Int32))])) _
  refine own_back (fun t k => XS.istore X0.here hx rfl (hb hby cpnn_d5) rfl (l' := #[.val (.ref t1), .val (.int (0 : Int32)), .val (.int (2 : Int32)), .val (.int (2 : Int32)), .val (.int (0 : Int32))]) rfl k) ?_
  show OwnGo p e below (s₁.setTop (mkF m 7 #[.val (.ref t1), .val (.int (0 : Int32)), .val (.int (2 : Int32)), .val (.int (2 : Int32)), .val (.int (0 : Int32))] [])) _
  refine own_back (fun t k => XS.iload X0.here hx rfl (hb hby cpnn_d7) rfl k) ?_
  show OwnGo p e below (s₁.setTop (mkF m 9 #[.val (.ref t1), .val (.int (0 : Int32)), .val (.int (2 : Int32)), .val (.int (2 : Int32)), .val (.int (0 : Int32))] [(.int (0 : Int32))])) _
  refine own_back (fun t k => XS.iloadN X0.here hx rfl (hb hby cpnn_d9) rfl k) ?_
  show OwnGo p e below (s₁.setTop (mkF m 10 #[.val (.ref t1), .val (.int (0 : Int32)), .val (.int (2 : Int32)), .val (.int (2 : Int32)), .val (.int (0 : Int32))] [(.int (2 : Int32)), (.int (0 : Int32))])) _
  refine own_back (fun t k => XS.icmpNo X0.here hx rfl (hb hby cpnn_d10) rfl (Jvm.Free.XT.ii_ge_f (by decide)) k) ?_
  show OwnGo p e below (s₁.setTop (mkF m 13 #[.val (.ref t1), .val (.int (0 : Int32)), .val (.int (2 : Int32)), .val (.int (2 : Int32)), .val (.int (0 : Int32))] [])) _
  refine own_back (fun t k => XS.aloadN X0.here hx rfl (hb hby cpnn_d13) rfl rfl k) ?_
  show OwnGo p e below (s₁.setTop (mkF m 14 #[.val (.ref t1), .val (.int (0 : Int32)), .val (.int (2 : Int32)), .val (.int (2 : Int32)), .val (.int (0 : Int32))] [(.ref t1)])) _
  refine own_back (fun t k => XS.iload X0.here hx rfl (hb hby cpnn_d14) rfl k) ?_
  show OwnGo p e below (s₁.setTop (mkF m 16 #[.val (.ref t1), .val (.int (0 : Int32)), .val (.int (2 : Int32)), .val (.int (2 : Int32)), .val (.int (0 : Int32))] [(.int (0 : Int32)), (.ref t1)])) _
  obtain ⟨c446, A446, q446, S446, M446, H446, U446⟩ := id V1
  have ib447 : ¬ ((0 : Int32) < 0 ∨ c446.slots.size ≤ ((0 : Int32)).toNatClampNeg) := (inb_of S446 ⟨by decide, by decide⟩)
  refine own_back (fun t k => X0.baloadBytes hx (j := (0 : Int32)) (v := (.int y0)) (own_hat e0 A446.1) (State.isArrayOf_alike hZ.alike A446.2.1) A446.2.2 ib447 (H446.at ib447 rfl) (g := (mkF m 16 #[.val (.ref t1), .val (.int (0 : Int32)), .val (.int (2 : Int32)), .val (.int (2 : Int32)), .val (.int (0 : Int32))] [(.int (0 : Int32)), (.ref t1)])) rfl rfl (hb hby cpnn_d16) t k) ?_
  show OwnGo p e below (s₁.setTop (mkF m 17 #[.val (.ref t1), .val (.int (0 : Int32)), .val (.int (2 : Int32)), .val (.int (2 : Int32)), .val (.int (0 : Int32))] [(.int y0)])) _
  refine own_back (fun t k => XS.ifNo X0.here hx rfl (hb hby cpnn_d17) rfl (Jvm.Free.XT.i0_ge_f s0) k) ?_
  show OwnGo p e below (s₁.setTop (mkF m 20 #[.val (.ref t1), .val (.int (0 : Int32)), .val (.int (2 : Int32)), .val (.int (2 : Int32)), .val (.int (0 : Int32))] [])) _
  refine own_back (fun t k => XS.iload X0.here hx rfl (hb hby cpnn_d20) rfl k) ?_
  show OwnGo p e below (s₁.setTop (mkF m 22 #[.val (.ref t1), .val (.int (0 : Int32)), .val (.int (2 : Int32)), .val (.int (2 : Int32)), .val (.int (0 : Int32))] [(.int (0 : Int32))])) _
  refine own_back (fun t k => XS.iloadN X0.here hx rfl (hb hby cpnn_d22) rfl k) ?_
  show OwnGo p e below (s₁.setTop (mkF m 23 #[.val (.ref t1), .val (.int (0 : Int32)), .val (.int (2 : Int32)), .val (.int (2 : Int32)), .val (.int (0 : Int32))] [(.int (0 : Int32)), (.int (0 : Int32))])) _
  refine own_back (fun t k => XS.isub X0.here hx rfl (hb hby cpnn_d23) rfl k) ?_
  show OwnGo p e below (s₁.setTop (mkF m 24 #[.val (.ref t1), .val (.int (0 : Int32)), .val (.int (2 : Int32)), .val (.int (2 : Int32)), .val (.int (0 : Int32))] [(.int (0 : Int32))])) _
  refine own_retI X0 hx Bd.notSynchronized Bd.returns (hb hby cpnn_d24) e0 (Nat.le_of_ble_eq_true rfl) (Nat.le_of_ble_eq_true rfl) ?_
  exact ⟨rfl, N0, rfl⟩
theorem hnnn_d0 : decode jdk_123_method_2_code 0 = .ok (.aload_n 0, 1) := by decide +kernel
theorem hnnn_d1 : decode jdk_123_method_2_code 1 = .ok (.iload_n 1, 1) := by decide +kernel
theorem hnnn_d2 : decode jdk_123_method_2_code 2 = .ok (.iload_n 2, 1) := by decide +kernel
theorem hnnn_d3 : decode jdk_123_method_2_code 3 = .ok (.invokestatic 7, 3) := by decide +kernel
theorem hnnn_d6 : decode jdk_123_method_2_code 6 = .ok (.iload_n 2, 1) := by decide +kernel
theorem hnnn_d7 : decode jdk_123_method_2_code 7 = .ok (.if_icmp .eq 7, 3) := by decide +kernel
theorem hnnn_d10 : decode jdk_123_method_2_code 10 = .ok (.iconst 1, 1) := by decide +kernel
theorem hnnn_d11 : decode jdk_123_method_2_code 11 = .ok (.goto 4, 3) := by decide +kernel
theorem hnnn_d15 : decode jdk_123_method_2_code 15 = .ok (.ireturn, 1) := by decide +kernel
theorem hnnn_pn : plainName "java/lang/StringCoding" = true := by first | (simp [plainName, overriddenIn]; done) | decide +kernel
theorem hnnn_pd0 : parseMethodDescriptor "([BII)I" = some ⟨[(.array .byte), .int, .int], some .int⟩ := by decide +kernel
theorem hnnn_ef (m : MethodId) (x0 : Addr) (x1 : Int32) (x2 : Int32) : entryFrame m #[(.ref x0), (.int x1), (.int x2)] 3 = mkF m 0 #[.val (.ref x0), .val (.int x1), .val (.int x2)] [] := by first | (simp [entryFrame, mkF, argsToLocals, Value.category]; done) | rfl
set_option maxRecDepth 65536 in
set_option maxHeartbeats 40000000 in
theorem rm_hnnn (l : Launch) (Z : State) (a0 : Array Value) (hw : ∀ d ∈ tables_1, d.before a0 Z = true) (ws : List Jvm.Cond) (t1 : Addr) (k1 : ClassId) (y0 : Int32) (y1 : Int32) (h0 : Heap) (n0 : Nat) (Z0 : n0 ≤ h0.size) (V1 : Arv Z h0 t1 k1 .byte (2 : Int32) [.int y0, .int y1] (.int 0)) (s0 : y0 < 0) (s1 : y1 < 0) :
    MetFree l (⟨"java/lang/StringCoding", "hasNegatives", "([BII)Z"⟩ : MethodName) (head1 (Jvm.Cond.code (⟨"java/lang/StringCoding", "hasNegatives", "([BII)Z"⟩ : MethodName) jdk_123_method_2_code 3 (some .boolean) :: ws) ({ frames := 1, cells := 0, slots := 0, locals := 20 } : Room)) (fun a U => a = #[(.ref t1), (.int (0 : Int32)), (.int (2 : Int32))] ∧ Z.Warmed39 U.vm ∧ U.heap = h0) (fun _ _ _ _ _ => True) (fun _ U o U' => OwnEnd U (fun v h L => v = some (.int (1 : Int32)) ∧ Fr n0 L ∧ h = h0) ({ frames := 1, cells := 0, slots := 0, locals := 20 } : Room).cells ({ frames := 1, cells := 0, slots := 0, locals := 20 } : Room).slots o U') := by
  refine MetFree.of_bodySF (plainFor_of_name hnnn_pn) hisR ?_
  intro p e s m args below meth c s₁ Bd hml0 hP hK
  obtain ⟨rfl, hZ, hh⟩ := hP
  have hx := Bd.exec
  have hby := Bd.bytes
  have hml : c.maxLocals = 3 := hml0
  have hown : s.vm.findClass "java/lang/StringCoding" = some m.cls := findClass_of_methodNamed Bd.named
  have hnm := (name_of_methodNamed Bd.named Bd.method).1
  have X0 : Stand p l e ({ frames := 1, cells := 0, slots := 0, locals := 20 } : Room) s m #[(.ref t1), (.int (0 : Int32)), (.int (2 : Int32))] below meth c s₁ [] 0 0 := Stand.of_body Bd
  have e0 : s₁.heap = h0 := by rw [← hh, Bd.state]; rfl
  have N0 := Fr.nil n0
  have KP0 := Keep.refl h0 []
  refine own_go (Q := (OwnEnd s (fun v h L => v = some (.int (1 : Int32)) ∧ Fr n0 L ∧ h = h0) ({ frames := 1, cells := 0, slots := 0, locals := 20 } : Room).cells ({ frames := 1, cells := 0, slots := 0, locals := 20 } : Room).slots)) ?_
  refine own_back (fun t k => castTop (hnnn_ef m t1 (0 : Int32) (2 : Int32)) k) ?_
  show OwnGo p e below (s₁.setTop (mkF m 0 #[.val (.ref t1), .val (.int (0 : Int32)), .val (.int (2 : Int32))] [])) _
  refine own_back (fun t k => XS.aloadN X0.here hx rfl (hb hby hnnn_d0) rfl rfl k) ?_
  show OwnGo p e below (s₁.setTop (mkF m 1 #[.val (.ref t1), .val (.int (0 : Int32)), .val (.int (2 : Int32))] [(.ref t1)])) _
  refine own_back (fun t k => XS.iloadN X0.here hx rfl (hb hby hnnn_d1) rfl k) ?_
  show OwnGo p e below (s₁.setTop (mkF m 2 #[.val (.ref t1), .val (.int (0 : Int32)), .val (.int (2 : Int32))] [(.int (0 : Int32)), (.ref t1)])) _
  refine own_back (fun t k => XS.iloadN X0.here hx rfl (hb hby hnnn_d2) rfl k) ?_
  show OwnGo p e below (s₁.setTop (mkF m 3 #[.val (.ref t1), .val (.int (0 : Int32)), .val (.int (2 : Int32))] [(.int (2 : Int32)), (.int (0 : Int32)), (.ref t1)])) _
  obtain ⟨_, _, ⟨T448, L448, k448, n448⟩, -, X448, ⟨Lc448, hQ448, l448, y448, z448⟩, st448⟩ := Jvm.LawKit.callS X0 hx (y := (⟨"java/lang/StringCoding", "countPositives", "([BII)I"⟩ : MethodName)) hown (mvT hZ (hw _ (List.mem_of_getElem? (i := 72) rfl))) (mvT hZ (hw _ (List.mem_of_getElem? (i := 73) rfl))) (mvT hZ (hw _ (List.mem_of_getElem? (i := 70) rfl))) (mvT hZ (hw _ (List.mem_of_getElem? (i := 74) rfl))) (by decide) (own_backN (W := 0) (rm_cpnn l Z a0 hw [] t1 k1 y0 y1 h0 n0 Z0 V1 s0 s1) hZ (hw _ (List.mem_of_getElem? (i := 74) rfl)) (hw _ (List.mem_of_getElem? (i := 70) rfl)) (by decide) (by decide)) (g := (mkF m 3 #[.val (.ref t1), .val (.int (0 : Int32)), .val (.int (2 : Int32))] [(.int (2 : Int32)), (.int (0 : Int32)), (.ref t1)])) rfl (by rw [hml]; rfl) (argsL := [(.ref t1), (.int (0 : Int32)), (.int (2 : Int32))]) (rest := []) (lenOf hnnn_pd0 rfl) rfl (by show 2 * 0 + _ ≤ _; exact Nat.le_of_eq rfl) (hb hby hnnn_d3) (fun _ _ => ⟨rfl, e0, Nat.le_of_ble_eq_true rfl, Nat.le_of_ble_eq_true rfl⟩)
  dsimp only [Pt.U, Pt.locs, Pt.cells, Pt.slots] at X448 l448 y448 z448 st448 hQ448
  subst l448 y448 z448
  obtain ⟨rfl, N448q, hh448⟩ := hQ448
  refine own_back st448 ?_
  have N448 := Fr.app N0 N448q
  show OwnGo p e below (T448.setTop (mkF m 6 #[.val (.ref t1), .val (.int (0 : Int32)), .val (.int (2 : Int32))] [(.int (0 : Int32))])) _
  refine own_back (fun t k => XS.iloadN X448.here hx rfl (hb hby hnnn_d6) rfl k) ?_
  show OwnGo p e below (T448.setTop (mkF m 7 #[.val (.ref t1), .val (.int (0 : Int32)), .val (.int (2 : Int32))] [(.int (2 : Int32)), (.int (0 : Int32))])) _
  refine own_back (fun t k => XS.icmpNo X448.here hx rfl (hb hby hnnn_d7) rfl (Jvm.Free.XT.ii_eq_f (by decide)) k) ?_
  show OwnGo p e below (T448.setTop (mkF m 10 #[.val (.ref t1), .val (.int (0 : Int32)), .val (.int (2 : Int32))] [])) _
  refine own_back (fun t k => XS.iconst X448.here hx rfl (hb hby hnnn_d10) k) ?_
  show OwnGo p e below (T448.setTop (mkF m 11 #[.val (.ref t1), .val (.int (0 : Int32)), .val (.int (2 : Int32))] [(.int (1 : Int32))])) _
  refine own_back (fun t k => XS.goto X448.here hx rfl (pc0 := 11) (pc' := 15) rfl (hb hby hnnn_d11) (by decide) (by decide) k) ?_
  show OwnGo p e below (T448.setTop (mkF m 15 #[.val (.ref t1), .val (.int (0 : Int32)), .val (.int (2 : Int32))] [(.int (1 : Int32))])) _
  refine own_retN X448 hx Bd.notSynchronized (t := .boolean) (z := (1 : Int32)) Bd.returns (by simp) rfl (hb hby hnnn_d15) hh448 (Nat.le_of_ble_eq_true rfl) (Nat.le_of_ble_eq_true rfl) ?_
  exact ⟨rfl, N448, rfl⟩
theorem eunn_d0 : decode jdk_42_method_46_code 0 = .ok (.iload_n 0, 1) := by decide +kernel
theorem eunn_d1 : decode jdk_42_method_46_code 1 = .ok (.iconst 1, 1) := by decide +kernel
theorem eunn_d2 : decode jdk_42_method_46_code 2 = .ok (.if_icmp .ne 9, 3) := by decide +kernel
theorem eunn_d11 : decode jdk_42_method_46_code 11 = .ok (.aload_n 1, 1) := by decide +kernel
theorem eunn_d12 : decode jdk_42_method_46_code 12 = .ok (.iconst 0, 1) := by decide +kernel
theorem eunn_d13 : decode jdk_42_method_46_code 13 = .ok (.aload_n 1, 1) := by decide +kernel
theorem eunn_d14 : decode jdk_42_method_46_code 14 = .ok (.arraylength, 1) := by decide +kernel
theorem eunn_d15 : decode jdk_42_method_46_code 15 = .ok (.invokestatic 128, 3) := by decide +kernel
theorem eunn_d18 : decode jdk_42_method_46_code 18 = .ok (.ifCond .ne 11, 3) := by decide +kernel
theorem eunn_d29 : decode jdk_42_method_46_code 29 = .ok (.iconst 0, 1) := by decide +kernel
theorem eunn_d30 : decode jdk_42_method_46_code 30 = .ok (.istore_n 3, 1) := by decide +kernel
theorem eunn_d31 : decode jdk_42_method_46_code 31 = .ok (.aload_n 1, 1) := by decide +kernel
theorem eunn_d32 : decode jdk_42_method_46_code 32 = .ok (.arraylength, 1) := by decide +kernel
theorem eunn_d33 : decode jdk_42_method_46_code 33 = .ok (.invokestatic 60, 3) := by decide +kernel
theorem eunn_d36 : decode jdk_42_method_46_code 36 = .ok (.astore 4, 2) := by decide +kernel
theorem eunn_d38 : decode jdk_42_method_46_code 38 = .ok (.aload_n 1, 1) := by decide +kernel
theorem eunn_d39 : decode jdk_42_method_46_code 39 = .ok (.astore 5, 2) := by decide +kernel
theorem eunn_d41 : decode jdk_42_method_46_code 41 = .ok (.aload 5, 2) := by decide +kernel
theorem eunn_d43 : decode jdk_42_method_46_code 43 = .ok (.arraylength, 1) := by decide +kernel
theorem eunn_d44 : decode jdk_42_method_46_code 44 = .ok (.istore 6, 2) := by decide +kernel
theorem eunn_d46 : decode jdk_42_method_46_code 46 = .ok (.iconst 0, 1) := by decide +kernel
theorem eunn_d47 : decode jdk_42_method_46_code 47 = .ok (.istore 7, 2) := by decide +kernel
theorem eunn_d49 : decode jdk_42_method_46_code 49 = .ok (.iload 7, 2) := by decide +kernel
theorem eunn_d51 : decode jdk_42_method_46_code 51 = .ok (.iload 6, 2) := by decide +kernel
theorem eunn_d53 : decode jdk_42_method_46_code 53 = .ok (.if_icmp .ge 71, 3) := by decide +kernel
theorem eunn_d56 : decode jdk_42_method_46_code 56 = .ok (.aload 5, 2) := by decide +kernel
theorem eunn_d58 : decode jdk_42_method_46_code 58 = .ok (.iload 7, 2) := by decide +kernel
theorem eunn_d60 : decode jdk_42_method_46_code 60 = .ok (.baload, 1) := by decide +kernel
theorem eunn_d61 : decode jdk_42_method_46_code 61 = .ok (.istore 8, 2) := by decide +kernel
theorem eunn_d63 : decode jdk_42_method_46_code 63 = .ok (.iload 8, 2) := by decide +kernel
theorem eunn_d65 : decode jdk_42_method_46_code 65 = .ok (.ifCond .ge 44, 3) := by decide +kernel
theorem eunn_d68 : decode jdk_42_method_46_code 68 = .ok (.aload 4, 2) := by decide +kernel
theorem eunn_d70 : decode jdk_42_method_46_code 70 = .ok (.iload_n 3, 1) := by decide +kernel
theorem eunn_d71 : decode jdk_42_method_46_code 71 = .ok (.iinc 3 1, 3) := by decide +kernel
theorem eunn_d74 : decode jdk_42_method_46_code 74 = .ok (.sipush 192, 3) := by decide +kernel
theorem eunn_d77 : decode jdk_42_method_46_code 77 = .ok (.iload 8, 2) := by decide +kernel
theorem eunn_d79 : decode jdk_42_method_46_code 79 = .ok (.sipush 255, 3) := by decide +kernel
theorem eunn_d82 : decode jdk_42_method_46_code 82 = .ok (.iand, 1) := by decide +kernel
theorem eunn_d83 : decode jdk_42_method_46_code 83 = .ok (.bipush 6, 2) := by decide +kernel
theorem eunn_d85 : decode jdk_42_method_46_code 85 = .ok (.ishr, 1) := by decide +kernel
theorem eunn_d86 : decode jdk_42_method_46_code 86 = .ok (.ior, 1) := by decide +kernel
theorem eunn_d87 : decode jdk_42_method_46_code 87 = .ok (.i2b, 1) := by decide +kernel
theorem eunn_d88 : decode jdk_42_method_46_code 88 = .ok (.bastore, 1) := by decide +kernel
theorem eunn_d89 : decode jdk_42_method_46_code 89 = .ok (.aload 4, 2) := by decide +kernel
theorem eunn_d91 : decode jdk_42_method_46_code 91 = .ok (.iload_n 3, 1) := by decide +kernel
theorem eunn_d92 : decode jdk_42_method_46_code 92 = .ok (.iinc 3 1, 3) := by decide +kernel
theorem eunn_d95 : decode jdk_42_method_46_code 95 = .ok (.sipush 128, 3) := by decide +kernel
theorem eunn_d98 : decode jdk_42_method_46_code 98 = .ok (.iload 8, 2) := by decide +kernel
theorem eunn_d100 : decode jdk_42_method_46_code 100 = .ok (.bipush 63, 2) := by decide +kernel
theorem eunn_d102 : decode jdk_42_method_46_code 102 = .ok (.iand, 1) := by decide +kernel
theorem eunn_d103 : decode jdk_42_method_46_code 103 = .ok (.ior, 1) := by decide +kernel
theorem eunn_d104 : decode jdk_42_method_46_code 104 = .ok (.i2b, 1) := by decide +kernel
theorem eunn_d105 : decode jdk_42_method_46_code 105 = .ok (.bastore, 1) := by decide +kernel
theorem eunn_d106 : decode jdk_42_method_46_code 106 = .ok (.goto 12, 3) := by decide +kernel
theorem eunn_d118 : decode jdk_42_method_46_code 118 = .ok (.iinc 7 1, 3) := by decide +kernel
theorem eunn_d121 : decode jdk_42_method_46_code 121 = .ok (.goto (-72), 3) := by decide +kernel
theorem eunn_d124 : decode jdk_42_method_46_code 124 = .ok (.iload_n 3, 1) := by decide +kernel
theorem eunn_d125 : decode jdk_42_method_46_code 125 = .ok (.aload 4, 2) := by decide +kernel
theorem eunn_d127 : decode jdk_42_method_46_code 127 = .ok (.arraylength, 1) := by decide +kernel
theorem eunn_d128 : decode jdk_42_method_46_code 128 = .ok (.if_icmp .ne 6, 3) := by decide +kernel
theorem eunn_d131 : decode jdk_42_method_46_code 131 = .ok (.aload 4, 2) := by decide +kernel
theorem eunn_d133 : decode jdk_42_method_46_code 133 = .ok (.areturn, 1) := by decide +kernel
theorem eunn_pn : plainName "java/lang/String" = true := by first | (simp [plainName, overriddenIn]; done) | decide +kernel
theorem eunn_pd0 : parseMethodDescriptor "([BII)Z" = some ⟨[(.array .byte), .int, .int], some .boolean⟩ := by decide +kernel
theorem eunn_pd1 : parseMethodDescriptor "(I)[B" = some ⟨[.int], some (.array .byte)⟩ := by decide +kernel
theorem eunn_ef (m : MethodId) (x0 : Int32) (x1 : Addr) (x2 : Int32) : entryFrame m #[(.int x0), (.ref x1), (.int x2)] 9 = mkF m 0 #[.val (.int x0), .val (.ref x1), .val (.int x2), .unset, .unset, .unset, .unset, .unset, .unset] [] := by first | (simp [entryFrame, mkF, argsToLocals, Value.category]; done) | rfl
set_option maxRecDepth 65536 in
set_option maxHeartbeats 40000000 in
theorem rm_eunn (l : Launch) (Z : State) (a0 : Array Value) (hw : ∀ d ∈ tables_1, d.before a0 Z = true) (ws : List Jvm.Cond) (t1 : Addr) (k1 : ClassId) (y0 : Int32) (y1 : Int32) (h0 : Heap) (n0 : Nat) (Z0 : n0 ≤ h0.size) (OL : Old Z n0 h0) (V1 : Arv Z h0 t1 k1 .byte (2 : Int32) [.int y0, .int y1] (.int 0)) (X1 : Exa Z h0 t1 "[B") (s0 : y0 < 0) (s1 : y1 < 0) :
    MetFree l (⟨"java/lang/String", "encodeUTF8", "(B[BZ)[B"⟩ : MethodName) (head1 (Jvm.Cond.code (⟨"java/lang/String", "encodeUTF8", "(B[BZ)[B"⟩ : MethodName) jdk_42_method_46_code 9 (some (.array .byte)) :: ws) ({ frames := 2, cells := 2, slots := 8, locals := 90 } : Room)) (fun a U => a = #[(.int (0 : Int32)), (.ref t1), (.int (1 : Int32))] ∧ Z.Warmed39 U.vm ∧ U.heap = h0) (fun _ _ _ _ _ => True) (fun _ U o U' => OwnEnd U (fun v h L => ∃ b, v = some (.ref b) ∧ Fr n0 L ∧ Ext h0 h) ({ frames := 2, cells := 2, slots := 8, locals := 90 } : Room).cells ({ frames := 2, cells := 2, slots := 8, locals := 90 } : Room).slots o U') := by
  refine MetFree.of_bodySF (plainFor_of_name eunn_pn) hisR ?_
  intro p e s m args below meth c s₁ Bd hml0 hP hK
  obtain ⟨rfl, hZ, hh⟩ := hP
  have hx := Bd.exec
  have hby := Bd.bytes
  have hml : c.maxLocals = 9 := hml0
  have hown : s.vm.findClass "java/lang/String" = some m.cls := findClass_of_methodNamed Bd.named
  have hnm := (name_of_methodNamed Bd.named Bd.method).1
  have X0 : Stand p l e ({ frames := 2, cells := 2, slots := 8, locals := 90 } : Room) s m #[(.int (0 : Int32)), (.ref t1), (.int (1 : Int32))] below meth c s₁ [] 0 0 := Stand.of_body Bd
  have e0 : s₁.heap = h0 := by rw [← hh, Bd.state]; rfl
  have N0 := Fr.nil n0
  have KP0 := Keep.refl h0 []
  refine own_go (Q := (OwnEnd s (fun v h L => ∃ b, v = some (.ref b) ∧ Fr n0 L ∧ Ext h0 h) ({ frames := 2, cells := 2, slots := 8, locals := 90 } : Room).cells ({ frames := 2, cells := 2, slots := 8, locals := 90 } : Room).slots)) ?_
  refine own_back (fun t k => castTop (eunn_ef m (0 : Int32) t1 (1 : Int32)) k) ?_
  show OwnGo p e below (s₁.setTop (mkF m 0 #[.val (.int (0 : Int32)), .val (.ref t1), .val (.int (1 : Int32)), .unset, .unset, .unset, .unset, .unset, .unset] [])) _
  refine own_back (fun t k => XS.iloadN X0.here hx rfl (hb hby eunn_d0) rfl k) ?_
  refine own_back (fun t k => XS.iconst X0.here hx rfl (hb hby eunn_d1) k) ?_
  refine own_back (fun t k => XS.icmpYes X0.here hx rfl (pc0 := 2) (pc' := 11) rfl (hb hby eunn_d2) rfl (Jvm.Free.XT.ii_ne_t (by decide)) (by decide) (by decide) k) ?_
  show OwnGo p e below (s₁.setTop (mkF m 11 #[.val (.int (0 : Int32)), .val (.ref t1), .val (.int (1 : Int32)), .unset, .unset, .unset, .unset, .unset, .unset] [])) _
  refine own_back (fun t k => XS.aloadN X0.here hx rfl (hb hby eunn_d11) rfl rfl k) ?_
  show OwnGo p e below (s₁.setTop (mkF m 12 #[.val (.int (0 : Int32)), .val (.ref t1), .val (.int (1 : Int32)), .unset, .unset, .unset, .unset, .unset, .unset] [(.ref t1)])) _
  refine own_back (fun t k => XS.iconst X0.here hx rfl (hb hby eunn_d12) k) ?_
  refine own_back (fun t k => XS.aloadN X0.here hx rfl (hb hby eunn_d13) rfl rfl k) ?_
  obtain ⟨c449, A449, q449, S449, M449, H449, U449⟩ := id V1
  refine own_back (fun t k => X0.arraylength hx (own_hat e0 A449.1) (State.isArrayOf_alike hZ.alike A449.2.1) (g := (mkF m 14 #[.val (.int (0 : Int32)), .val (.ref t1), .val (.int (1 : Int32)), .unset, .unset, .unset, .unset, .unset, .unset] [(.ref t1), (.int (0 : Int32)), (.ref t1)])) rfl rfl (hb hby eunn_d14) t k) ?_
  rw [len_of S449 M449]
  show OwnGo p e below (s₁.setTop (mkF m 15 #[.val (.int (0 : Int32)), .val (.ref t1), .val (.int (1 : Int32)), .unset, .unset, .unset, .unset, .unset, .unset] [(.int (2 : Int32)), (.int (0 : Int32)), (.ref t1)])) _
  obtain ⟨_, _, ⟨T450, L450, k450, n450⟩, -, X450, ⟨Lc450, hQ450, l450, y450, z450⟩, st450⟩ := Jvm.LawKit.callS X0 hx (y := (⟨"java/lang/StringCoding", "hasNegatives", "([BII)Z"⟩ : MethodName)) hown (mvT hZ (hw _ (List.mem_of_getElem? (i := 68) rfl))) (mvT hZ (hw _ (List.mem_of_getElem? (i := 69) rfl))) (mvT hZ (hw _ (List.mem_of_getElem? (i := 70) rfl))) (mvT hZ (hw _ (List.mem_of_getElem? (i := 71) rfl))) (by decide) (own_backN (W := 0) (rm_hnnn l Z a0 hw [] t1 k1 y0 y1 h0 n0 Z0 V1 s0 s1) hZ (hw _ (List.mem_of_getElem? (i := 71) rfl)) (hw _ (List.mem_of_getElem? (i := 70) rfl)) (by decide) (by decide)) (g := (mkF m 15 #[.val (.int (0 : Int32)), .val (.ref t1), .val (.int (1 : Int32)), .unset, .unset, .unset, .unset, .unset, .unset] [(.int (2 : Int32)), (.int (0 : Int32)), (.ref t1)])) rfl (by rw [hml]; rfl) (argsL := [(.ref t1), (.int (0 : Int32)), (.int (2 : Int32))]) (rest := []) (lenOf eunn_pd0 rfl) rfl (by show 2 * 0 + _ ≤ _; exact Nat.le_of_eq rfl) (hb hby eunn_d15) (fun _ _ => ⟨rfl, e0, Nat.le_of_ble_eq_true rfl, Nat.le_of_ble_eq_true rfl⟩)
  dsimp only [Pt.U, Pt.locs, Pt.cells, Pt.slots] at X450 l450 y450 z450 st450 hQ450
  subst l450 y450 z450
  obtain ⟨rfl, N450q, hh450⟩ := hQ450
  refine own_back st450 ?_
  have N450 := Fr.app N0 N450q
  show OwnGo p e below (T450.setTop (mkF m 18 #[.val (.int (0 : Int32)), .val (.ref t1), .val (.int (1 : Int32)), .unset, .unset, .unset, .unset, .unset, .unset] [(.int (1 : Int32))])) _
  refine own_back (fun t k => XS.ifYes X450.here hx rfl (pc0 := 18) (pc' := 29) rfl (hb hby eunn_d18) rfl (Jvm.Free.XT.i0_ne_t (by decide)) (by decide) (by decide) k) ?_
  show OwnGo p e below (T450.setTop (mkF m 29 #[.val (.int (0 : Int32)), .val (.ref t1), .val (.int (1 : Int32)), .unset, .unset, .unset, .unset, .unset, .unset] [])) _
  refine own_back (fun t k => XS.iconst X450.here hx rfl (hb hby eunn_d29) k) ?_
  refine own_back (fun t k => XS.istoreN X450.here hx rfl (hb hby eunn_d30) rfl (l' := #[.val (.int (0 : Int32)), .val (.ref t1), .val (.int (1 : Int32)), .val (.int (0 : Int32)), .unset, .unset, .unset, .unset, .unset]) rfl k) ?_
  refine own_back (fun t k => XS.aloadN X450.here hx rfl (hb hby eunn_d31) rfl rfl k) ?_
  show OwnGo p e below (T450.setTop (mkF m 32 #[.val (.int (0 : Int32)), .val (.ref t1), .val (.int (1 : Int32)), .val (.int (0 : Int32)), .unset, .unset, .unset, .unset, .unset] [(.ref t1)])) _
  obtain ⟨c451, A451, q451, S451, M451, H451, U451⟩ := id V1
  refine own_back (fun t k => X450.arraylength hx (own_hat hh450 A451.1) (State.isArrayOf_alike hZ.alike A451.2.1) (g := (mkF m 32 #[.val (.int (0 : Int32)), .val (.ref t1), .val (.int (1 : Int32)), .val (.int (0 : Int32)), .unset, .unset, .unset, .unset, .unset] [(.ref t1)])) rfl rfl (hb hby eunn_d32) t k) ?_
  rw [len_of S451 M451]
  obtain ⟨_, _, ⟨T452, L452, k452, n452⟩, -, X452, ⟨Lc452, hQ452, l452, y452, z452⟩, st452⟩ := Jvm.LawKit.callS X450 hx (y := (⟨"java/lang/StringUTF16", "newBytesFor", "(I)[B"⟩ : MethodName)) hown (mvT hZ (hw _ (List.mem_of_getElem? (i := 122) rfl))) (mvT hZ (hw _ (List.mem_of_getElem? (i := 123) rfl))) (mvT hZ (hw _ (List.mem_of_getElem? (i := 112) rfl))) (mvT hZ (hw _ (List.mem_of_getElem? (i := 124) rfl))) (by decide) (own_backN (W := 0) (rm_nbf2 l Z a0 hw [] h0 n0 Z0 OL) hZ (hw _ (List.mem_of_getElem? (i := 124) rfl)) (hw _ (List.mem_of_getElem? (i := 112) rfl)) (by decide) (by decide)) (g := (mkF m 33 #[.val (.int (0 : Int32)), .val (.ref t1), .val (.int (1 : Int32)), .val (.int (0 : Int32)), .unset, .unset, .unset, .unset, .unset] [(.int (2 : Int32))])) rfl (by rw [hml]; rfl) (argsL := [(.int (2 : Int32))]) (rest := []) (lenOf eunn_pd1 rfl) rfl (by show 2 * 0 + _ ≤ _; exact Nat.le_of_eq rfl) (hb hby eunn_d33) (fun _ _ => ⟨rfl, hh450, Nat.le_of_ble_eq_true rfl, Nat.le_of_ble_eq_true rfl⟩)
  dsimp only [Pt.U, Pt.locs, Pt.cells, Pt.slots] at X452 l452 y452 z452 st452 hQ452
  subst l452 y452 z452
  obtain ⟨bq452, kq452, rfl, N452q, E452, g452, z452, V452⟩ := hQ452
  refine own_back st452 ?_
  have N452 := Fr.app N450 N452q
  have O453 := OL.ext E452
  have KP454 := KP0.ext E452
  have Zs455 := Nat.le_trans Z0 E452.1
  have f456 := V1.ext E452
  show OwnGo p e below (T452.setTop (mkF m 36 #[.val (.int (0 : Int32)), .val (.ref t1), .val (.int (1 : Int32)), .val (.int (0 : Int32)), .unset, .unset, .unset, .unset, .unset] [(.ref bq452)])) _
  refine own_back (fun t k => XS.astore X452.here hx rfl (hb hby eunn_d36) rfl rfl (l' := #[.val (.int (0 : Int32)), .val (.ref t1), .val (.int (1 : Int32)), .val (.int (0 : Int32)), .val (.ref bq452), .unset, .unset, .unset, .unset]) rfl k) ?_
  refine own_back (fun t k => XS.aloadN X452.here hx rfl (hb hby eunn_d38) rfl rfl k) ?_
  show OwnGo p e below (T452.setTop (mkF m 39 #[.val (.int (0 : Int32)), .val (.ref t1), .val (.int (1 : Int32)), .val (.int (0 : Int32)), .val (.ref bq452), .unset, .unset, .unset, .unset] [(.ref t1)])) _
  refine own_back (fun t k => XS.astore X452.here hx rfl (hb hby eunn_d39) rfl rfl (l' := #[.val (.int (0 : Int32)), .val (.ref t1), .val (.int (1 : Int32)), .val (.int (0 : Int32)), .val (.ref bq452), .val (.ref t1), .unset, .unset, .unset]) rfl k) ?_
  refine own_back (fun t k => XS.aload X452.here hx rfl (hb hby eunn_d41) rfl rfl k) ?_
  obtain ⟨c457, A457, q457, S457, M457, H457, U457⟩ := id f456
  refine own_back (fun t k => X452.arraylength hx (own_hat rfl A457.1) (State.isArrayOf_alike hZ.alike A457.2.1) (g := (mkF m 43 #[.val (.int (0 : Int32)), .val (.ref t1), .val (.int (1 : Int32)), .val (.int (0 : Int32)), .val (.ref bq452), .val (.ref t1), .unset, .unset, .unset] [(.ref t1)])) rfl rfl (hb hby eunn_d43) t k) ?_
  rw [len_of S457 M457]
  show OwnGo p e below (T452.setTop (mkF m 44 #[.val (.int (0 : Int32)), .val (.ref t1), .val (.int (1 : Int32)), .val (.int (0 : Int32)), .val (.ref bq452), .val (.ref t1), .unset, .unset, .unset] [(.int (2 : Int32))])) _
  refine own_back (fun t k => XS.istore X452.here hx rfl (hb hby eunn_d44) rfl (l' := #[.val (.int (0 : Int32)), .val (.ref t1), .val (.int (1 : Int32)), .val (.int (0 : Int32)), .val (.ref bq452), .val (.ref t1), .val (.int (2 : Int32)), .unset, .unset]) rfl k) ?_
  refine own_back (fun t k => XS.iconst X452.here hx rfl (hb hby eunn_d46) k) ?_
  refine own_back (fun t k => XS.istore X452.here hx rfl (hb hby eunn_d47) rfl (l' := #[.val (.int (0 : Int32)), .val (.ref t1), .val (.int (1 : Int32)), .val (.int (0 : Int32)), .val (.ref bq452), .val (.ref t1), .val (.int (2 : Int32)), .val (.int (0 : Int32)), .unset]) rfl k) ?_
  show OwnGo p e below (T452.setTop (mkF m 49 #[.val (.int (0 : Int32)), .val (.ref t1), .val (.int (1 : Int32)), .val (.int (0 : Int32)), .val (.ref bq452), .val (.ref t1), .val (.int (2 : Int32)), .val (.int (0 : Int32)), .unset] [])) _
  refine own_back (fun t k => XS.iload X452.here hx rfl (hb hby eunn_d49) rfl k) ?_
  refine own_back (fun t k => XS.iload X452.here hx rfl (hb hby eunn_d51) rfl k) ?_
  refine own_back (fun t k => XS.icmpNo X452.here hx rfl (hb hby eunn_d53) rfl (Jvm.Free.XT.ii_ge_f (by decide)) k) ?_
  show OwnGo p e below (T452.setTop (mkF m 56 #[.val (.int (0 : Int32)), .val (.ref t1), .val (.int (1 : Int32)), .val (.int (0 : Int32)), .val (.ref bq452), .val (.ref t1), .val (.int (2 : Int32)), .val (.int (0 : Int32)), .unset] [])) _
  refine own_back (fun t k => XS.aload X452.here hx rfl (hb hby eunn_d56) rfl rfl k) ?_
  show OwnGo p e below (T452.setTop (mkF m 58 #[.val (.int (0 : Int32)), .val (.ref t1), .val (.int (1 : Int32)), .val (.int (0 : Int32)), .val (.ref bq452), .val (.ref t1), .val (.int (2 : Int32)), .val (.int (0 : Int32)), .unset] [(.ref t1)])) _
  refine own_back (fun t k => XS.iload X452.here hx rfl (hb hby eunn_d58) rfl k) ?_
  obtain ⟨c458, A458, q458, S458, M458, H458, U458⟩ := id f456
  have ib459 : ¬ ((0 : Int32) < 0 ∨ c458.slots.size ≤ ((0 : Int32)).toNatClampNeg) := (inb_of S458 ⟨by decide, by decide⟩)
  refine own_back (fun t k => X452.baloadBytes hx (j := (0 : Int32)) (v := (.int y0)) (own_hat rfl A458.1) (State.isArrayOf_alike hZ.alike A458.2.1) A458.2.2 ib459 (H458.at ib459 rfl) (g := (mkF m 60 #[.val (.int (0 : Int32)), .val (.ref t1), .val (.int (1 : Int32)), .val (.int (0 : Int32)), .val (.ref bq452), .val (.ref t1), .val (.int (2 : Int32)), .val (.int (0 : Int32)), .unset] [(.int (0 : Int32)), (.ref t1)])) rfl rfl (hb hby eunn_d60) t k) ?_
  refine own_back (fun t k => XS.istore X452.here hx rfl (hb hby eunn_d61) rfl (l' := #[.val (.int (0 : Int32)), .val (.ref t1), .val (.int (1 : Int32)), .val (.int (0 : Int32)), .val (.ref bq452), .val (.ref t1), .val (.int (2 : Int32)), .val (.int (0 : Int32)), .val (.int y0)]) rfl k) ?_
  show OwnGo p e below (T452.setTop (mkF m 63 #[.val (.int (0 : Int32)), .val (.ref t1), .val (.int (1 : Int32)), .val (.int (0 : Int32)), .val (.ref bq452), .val (.ref t1), .val (.int (2 : Int32)), .val (.int (0 : Int32)), .val (.int y0)] [])) _
  refine own_back (fun t k => XS.iload X452.here hx rfl (hb hby eunn_d63) rfl k) ?_
  refine own_back (fun t k => XS.ifNo X452.here hx rfl (hb hby eunn_d65) rfl (Jvm.Free.XT.i0_ge_f s0) k) ?_
  show OwnGo p e below (T452.setTop (mkF m 68 #[.val (.int (0 : Int32)), .val (.ref t1), .val (.int (1 : Int32)), .val (.int (0 : Int32)), .val (.ref bq452), .val (.ref t1), .val (.int (2 : Int32)), .val (.int (0 : Int32)), .val (.int y0)] [])) _
  refine own_back (fun t k => XS.aload X452.here hx rfl (hb hby eunn_d68) rfl rfl k) ?_
  refine own_back (fun t k => XS.iloadN X452.here hx rfl (hb hby eunn_d70) rfl k) ?_
  show OwnGo p e below (T452.setTop (mkF m 71 #[.val (.int (0 : Int32)), .val (.ref t1), .val (.int (1 : Int32)), .val (.int (0 : Int32)), .val (.ref bq452), .val (.ref t1), .val (.int (2 : Int32)), .val (.int (0 : Int32)), .val (.int y0)] [(.int (0 : Int32)), (.ref bq452)])) _
  refine own_back (fun t k => XS.iinc X452.here hx rfl (hb hby eunn_d71) rfl (l' := #[.val (.int (0 : Int32)), .val (.ref t1), .val (.int (1 : Int32)), .val (.int (1 : Int32)), .val (.ref bq452), .val (.ref t1), .val (.int (2 : Int32)), .val (.int (0 : Int32)), .val (.int y0)]) rfl k) ?_
  refine own_back (fun t k => XS.sipush X452.here hx rfl (hb hby eunn_d74) k) ?_
  refine own_back (fun t k => XS.iload X452.here hx rfl (hb hby eunn_d77) rfl k) ?_
  show OwnGo p e below (T452.setTop (mkF m 79 #[.val (.int (0 : Int32)), .val (.ref t1), .val (.int (1 : Int32)), .val (.int (1 : Int32)), .val (.ref bq452), .val (.ref t1), .val (.int (2 : Int32)), .val (.int (0 : Int32)), .val (.int y0)] [(.int y0), (.int (192 : Int32)), (.int (0 : Int32)), (.ref bq452)])) _
  refine own_back (fun t k => XS.sipush X452.here hx rfl (hb hby eunn_d79) k) ?_
  refine own_back (fun t k => XS.iand X452.here hx rfl (hb hby eunn_d82) rfl k) ?_
  refine own_back (fun t k => XS.bipush X452.here hx rfl (hb hby eunn_d83) k) ?_
  show OwnGo p e below (T452.setTop (mkF m 85 #[.val (.int (0 : Int32)), .val (.ref t1), .val (.int (1 : Int32)), .val (.int (1 : Int32)), .val (.ref bq452), .val (.ref t1), .val (.int (2 : Int32)), .val (.int (0 : Int32)), .val (.int y0)] [(.int (6 : Int32)), (.int (y0 &&& (255 : Int32))), (.int (192 : Int32)), (.int (0 : Int32)), (.ref bq452)])) _
  refine own_back (fun t k => XS.ishr X452.here hx rfl (hb hby eunn_d85) rfl k) ?_
  refine own_back (fun t k => XS.ior X452.here hx rfl (hb hby eunn_d86) rfl k) ?_
  refine own_back (fun t k => XS.i2b X452.here hx rfl (hb hby eunn_d87) rfl k) ?_
  show OwnGo p e below (T452.setTop (mkF m 88 #[.val (.int (0 : Int32)), .val (.ref t1), .val (.int (1 : Int32)), .val (.int (1 : Int32)), .val (.ref bq452), .val (.ref t1), .val (.int (2 : Int32)), .val (.int (0 : Int32)), .val (.int y0)] [(.int ((192 : Int32) ||| ((y0 &&& (255 : Int32)) >>> ((6 : Int32) &&& 31))).toInt8.toInt32), (.int (0 : Int32)), (.ref bq452)])) _
  obtain ⟨c460, A460, q460, S460, M460, H460, U460⟩ := id V452
  obtain ⟨T461, h461, X461, e461, W461, st461⟩ := stB X452 hx hZ rfl A460 (j := (0 : Int32)) (inb_of S460 ⟨by decide, by decide⟩) (g := (mkF m 88 #[.val (.int (0 : Int32)), .val (.ref t1), .val (.int (1 : Int32)), .val (.int (1 : Int32)), .val (.ref bq452), .val (.ref t1), .val (.int (2 : Int32)), .val (.int (0 : Int32)), .val (.int y0)] [(.int ((192 : Int32) ||| ((y0 &&& (255 : Int32)) >>> ((6 : Int32) &&& 31))).toInt8.toInt32), (.int (0 : Int32)), (.ref bq452)])) rfl rfl (hb hby eunn_d88)
  have O462 := O453.wr W461 g452
  have KP463 := KP454.wr W461 (Or.inr z452)
  have Zs464 := Nat.le_trans Zs455 (Keep.of_wr W461).1
  have f465 := f456.other W461 (Nat.ne_of_lt (Nat.lt_of_lt_of_le V1.lt z452))
  have V466 : Arv Z h461 bq452 kq452 .byte (4 : Int32) [(.int ((192 : Int32) ||| ((y0 &&& (255 : Int32)) >>> ((6 : Int32) &&& 31))).toInt8.toInt32.toInt8.toInt32), (.int 0), (.int 0), (.int 0)] (.int 0) := Arv.set A460 q460 S460 M460 H460 U460 (fits_nar_byte _) W461 0 rfl (Nat.le_of_ble_eq_true rfl)
  have N467 := Fr.snoc X461 N452 g452
  refine own_back st461 ?_
  refine own_back (fun t k => XS.aload X461.here hx rfl (hb hby eunn_d89) rfl rfl k) ?_
  refine own_back (fun t k => XS.iloadN X461.here hx rfl (hb hby eunn_d91) rfl k) ?_
  show OwnGo p e below (T461.setTop (mkF m 92 #[.val (.int (0 : Int32)), .val (.ref t1), .val (.int (1 : Int32)), .val (.int (1 : Int32)), .val (.ref bq452), .val (.ref t1), .val (.int (2 : Int32)), .val (.int (0 : Int32)), .val (.int y0)] [(.int (1 : Int32)), (.ref bq452)])) _
  refine own_back (fun t k => XS.iinc X461.here hx rfl (hb hby eunn_d92) rfl (l' := #[.val (.int (0 : Int32)), .val (.ref t1), .val (.int (1 : Int32)), .val (.int (2 : Int32)), .val (.ref bq452), .val (.ref t1), .val (.int (2 : Int32)), .val (.int (0 : Int32)), .val (.int y0)]) rfl k) ?_
  refine own_back (fun t k => XS.sipush X461.here hx rfl (hb hby eunn_d95) k) ?_
  refine own_back (fun t k => XS.iload X461.here hx rfl (hb hby eunn_d98) rfl k) ?_
  show OwnGo p e below (T461.setTop (mkF m 100 #[.val (.int (0 : Int32)), .val (.ref t1), .val (.int (1 : Int32)), .val (.int (2 : Int32)), .val (.ref bq452), .val (.ref t1), .val (.int (2 : Int32)), .val (.int (0 : Int32)), .val (.int y0)] [(.int y0), (.int (128 : Int32)), (.int (1 : Int32)), (.ref bq452)])) _
  refine own_back (fun t k => XS.bipush X461.here hx rfl (hb hby eunn_d100) k) ?_
  refine own_back (fun t k => XS.iand X461.here hx rfl (hb hby eunn_d102) rfl k) ?_
  refine own_back (fun t k => XS.ior X461.here hx rfl (hb hby eunn_d103) rfl k) ?_
  show OwnGo p e below (T461.setTop (mkF m 104 #[.val (.int (0 : Int32)), .val (.ref t1), .val (.int (1 : Int32)), .val (.int (2 : Int32)), .val (.ref bq452), .val (.ref t1), .val (.int (2 : Int32)), .val (.int (0 : Int32)), .val (.int y0)] [(.int ((128 : Int32) ||| (y0 &&& (63 : Int32)))), (.int (1 : Int32)), (.ref bq452)])) _
  refine own_back (fun t k => XS.i2b X461.here hx rfl (hb hby eunn_d104) rfl k) ?_
  obtain ⟨c468, A468, q468, S468, M468, H468, U468⟩ := id V466
  obtain ⟨T469, h469, X469, e469, W469, st469⟩ := stB X461 hx hZ e461 A468 (j := (1 : Int32)) (inb_of S468 ⟨by decide, by decide⟩) (g := (mkF m 105 #[.val (.int (0 : Int32)), .val (.ref t1), .val (.int (1 : Int32)), .val (.int (2 : Int32)), .val (.ref bq452), .val (.ref t1), .val (.int (2 : Int32)), .val (.int (0 : Int32)), .val (.int y0)] [(.int ((128 : Int32) ||| (y0 &&& (63 : Int32))).toInt8.toInt32), (.int (1 : Int32)), (.ref bq452)])) rfl rfl (hb hby eunn_d105)
  have O470 := O462.wr W469 g452
  have KP471 := KP463.wr W469 (Or.inr z452)
  have Zs472 := Nat.le_trans Zs464 (Keep.of_wr W469).1
  have f473 := f465.other W469 (Nat.ne_of_lt (Nat.lt_of_lt_of_le V1.lt z452))
  have V474 : Arv Z h469 bq452 kq452 .byte (4 : Int32) [(.int ((192 : Int32) ||| ((y0 &&& (255 : Int32)) >>> ((6 : Int32) &&& 31))).toInt8.toInt32.toInt8.toInt32), (.int ((128 : Int32) ||| (y0 &&& (63 : Int32))).toInt8.toInt32.toInt8.toInt32), (.int 0), (.int 0)] (.int 0) := Arv.set A468 q468 S468 M468 H468 U468 (fits_nar_byte _) W469 1 rfl (Nat.le_of_ble_eq_true rfl)
  have N475 := Fr.snoc X469 N467 g452
  refine own_back st469 ?_
  refine own_back (fun t k => XS.goto X469.here hx rfl (pc0 := 106) (pc' := 118) rfl (hb hby eunn_d106) (by decide) (by decide) k) ?_
  show OwnGo p e below (T469.setTop (mkF m 118 #[.val (.int (0 : Int32)), .val (.ref t1), .val (.int (1 : Int32)), .val (.int (2 : Int32)), .val (.ref bq452), .val (.ref t1), .val (.int (2 : Int32)), .val (.int (0 : Int32)), .val (.int y0)] [])) _
  refine own_back (fun t k => XS.iinc X469.here hx rfl (hb hby eunn_d118) rfl (l' := #[.val (.int (0 : Int32)), .val (.ref t1), .val (.int (1 : Int32)), .val (.int (2 : Int32)), .val (.ref bq452), .val (.ref t1), .val (.int (2 : Int32)), .val (.int (1 : Int32)), .val (.int y0)]) rfl k) ?_
  refine own_back (fun t k => XS.goto X469.here hx rfl (pc0 := 121) (pc' := 49) rfl (hb hby eunn_d121) (by decide) (by decide) k) ?_
  refine own_back (fun t k => XS.iload X469.here hx rfl (hb hby eunn_d49) rfl k) ?_
  show OwnGo p e below (T469.setTop (mkF m 51 #[.val (.int (0 : Int32)), .val (.ref t1), .val (.int (1 : Int32)), .val (.int (2 : Int32)), .val (.ref bq452), .val (.ref t1), .val (.int (2 : Int32)), .val (.int (1 : Int32)), .val (.int y0)] [(.int (1 : Int32))])) _
  refine own_back (fun t k => XS.iload X469.here hx rfl (hb hby eunn_d51) rfl k) ?_
  refine own_back (fun t k => XS.icmpNo X469.here hx rfl (hb hby eunn_d53) rfl (Jvm.Free.XT.ii_ge_f (by decide)) k) ?_
  show OwnGo p e below (T469.setTop (mkF m 56 #[.val (.int (0 : Int32)), .val (.ref t1), .val (.int (1 : Int32)), .val (.int (2 : Int32)), .val (.ref bq452), .val (.ref t1), .val (.int (2 : Int32)), .val (.int (1 : Int32)), .val (.int y0)] [])) _
  refine own_back (fun t k => XS.aload X469.here hx rfl (hb hby eunn_d56) rfl rfl k) ?_
  refine own_back (fun t k => XS.iload X469.here hx rfl (hb hby eunn_d58) rfl k) ?_
  show OwnGo p e below (T469.setTop (mkF m 60 #[.val (.int (0 : Int32)), .val (.ref t1), .val (.int (1 : Int32)), .val (.int (2 : Int32)), .val (.ref bq452), .val (.ref t1), .val (.int (2 : Int32)), .val (.int (1 : Int32)), .val (.int y0)] [(.int (1 : Int32)), (.ref t1)])) _
  obtain ⟨c476, A476, q476, S476, M476, H476, U476⟩ := id f473
  have ib477 : ¬ ((1 : Int32) < 0 ∨ c476.slots.size ≤ ((1 : Int32)).toNatClampNeg) := (inb_of S476 ⟨by decide, by decide⟩)
  refine own_back (fun t k => X469.baloadBytes hx (j := (1 : Int32)) (v := (.int y1)) (own_hat e469 A476.1) (State.isArrayOf_alike hZ.alike A476.2.1) A476.2.2 ib477 (H476.at ib477 rfl) (g := (mkF m 60 #[.val (.int (0 : Int32)), .val (.ref t1), .val (.int (1 : Int32)), .val (.int (2 : Int32)), .val (.ref bq452), .val (.ref t1), .val (.int (2 : Int32)), .val (.int (1 : Int32)), .val (.int y0)] [(.int (1 : Int32)), (.ref t1)])) rfl rfl (hb hby eunn_d60) t k) ?_
  refine own_back (fun t k => XS.istore X469.here hx rfl (hb hby eunn_d61) rfl (l' := #[.val (.int (0 : Int32)), .val (.ref t1), .val (.int (1 : Int32)), .val (.int (2 : Int32)), .val (.ref bq452), .val (.ref t1), .val (.int (2 : Int32)), .val (.int (1 : Int32)), .val (.int y1)]) rfl k) ?_
  refine own_back (fun t k => XS.iload X469.here hx rfl (hb hby eunn_d63) rfl k) ?_
  show OwnGo p e below (T469.setTop (mkF m 65 #[.val (.int (0 : Int32)), .val (.ref t1), .val (.int (1 : Int32)), .val (.int (2 : Int32)), .val (.ref bq452), .val (.ref t1), .val (.int (2 : Int32)), .val (.int (1 : Int32)), .val (.int y1)] [(.int y1)])) _
  refine own_back (fun t k => XS.ifNo X469.here hx rfl (hb hby eunn_d65) rfl (Jvm.Free.XT.i0_ge_f s1) k) ?_
  show OwnGo p e below (T469.setTop (mkF m 68 #[.val (.int (0 : Int32)), .val (.ref t1), .val (.int (1 : Int32)), .val (.int (2 : Int32)), .val (.ref bq452), .val (.ref t1), .val (.int (2 : Int32)), .val (.int (1 : Int32)), .val (.int y1)] [])) _
  refine own_back (fun t k => XS.aload X469.here hx rfl (hb hby eunn_d68) rfl rfl k) ?_
  refine own_back (fun t k => XS.iloadN X469.here hx rfl (hb hby eunn_d70) rfl k) ?_
  refine own_back (fun t k => XS.iinc X469.here hx rfl (hb hby eunn_d71) rfl (l' := #[.val (.int (0 : Int32)), .val (.ref t1), .val (.int (1 : Int32)), .val (.int (3 : Int32)), .val (.ref bq452), .val (.ref t1), .val (.int (2 : Int32)), .val (.int (1 : Int32)), .val (.int y1)]) rfl k) ?_
  show OwnGo p e below (T469.setTop (mkF m 74 #[.val (.int (0 : Int32)), .val (.ref t1), .val (.int (1 : Int32)), .val (.int (3 : Int32)), .val (.ref bq452), .val (.ref t1), .val (.int (2 : Int32)), .val (.int (1 : Int32)), .val (.int y1)] [(.int (2 : Int32)), (.ref bq452)])) _
  refine own_back (fun t k => XS.sipush X469.here hx rfl (hb hby eunn_d74) k) ?_
  refine own_back (fun t k => XS.iload X469.here hx rfl (hb hby eunn_d77) rfl k) ?_
  refine own_back (fun t k => XS.sipush X469.here hx rfl (hb hby eunn_d79) k) ?_
  show OwnGo p e below (T469.setTop (mkF m 82 #[.val (.int (0 : Int32)), .val (.ref t1), .val (.int (1 : Int32)), .val (.int (3 : Int32)), .val (.ref bq452), .val (.ref t1), .val (.int (2 : Int32)), .val (.int (1 : Int32)), .val (.int y1)] [(.int (255 : Int32)), (.int y1), (.int (192 : Int32)), (.int (2 : Int32)), (.ref bq452)])) _
  refine own_back (fun t k => XS.iand X469.here hx rfl (hb hby eunn_d82) rfl k) ?_
  refine own_back (fun t k => XS.bipush X469.here hx rfl (hb hby eunn_d83) k) ?_
  refine own_back (fun t k => XS.ishr X469.here hx rfl (hb hby eunn_d85) rfl k) ?_
  show OwnGo p e below (T469.setTop (mkF m 86 #[.val (.int (0 : Int32)), .val (.ref t1), .val (.int (1 : Int32)), .val (.int (3 : Int32)), .val (.ref bq452), .val (.ref t1), .val (.int (2 : Int32)), .val (.int (1 : Int32)), .val (.int y1)] [(.int ((y1 &&& (255 : Int32)) >>> ((6 : Int32) &&& 31))), (.int (192 : Int32)), (.int (2 : Int32)), (.ref bq452)])) _
  refine own_back (fun t k => XS.ior X469.here hx rfl (hb hby eunn_d86) rfl k) ?_
  refine own_back (fun t k => XS.i2b X469.here hx rfl (hb hby eunn_d87) rfl k) ?_
  obtain ⟨c478, A478, q478, S478, M478, H478, U478⟩ := id V474
  obtain ⟨T479, h479, X479, e479, W479, st479⟩ := stB X469 hx hZ e469 A478 (j := (2 : Int32)) (inb_of S478 ⟨by decide, by decide⟩) (g := (mkF m 88 #[.val (.int (0 : Int32)), .val (.ref t1), .val (.int (1 : Int32)), .val (.int (3 : Int32)), .val (.ref bq452), .val (.ref t1), .val (.int (2 : Int32)), .val (.int (1 : Int32)), .val (.int y1)] [(.int ((192 : Int32) ||| ((y1 &&& (255 : Int32)) >>> ((6 : Int32) &&& 31))).toInt8.toInt32), (.int (2 : Int32)), (.ref bq452)])) rfl rfl (hb hby eunn_d88)
  have O480 := O470.wr W479 g452
  have KP481 := KP471.wr W479 (Or.inr z452)
  have Zs482 := Nat.le_trans Zs472 (Keep.of_wr W479).1
  have f483 := f473.other W479 (Nat.ne_of_lt (Nat.lt_of_lt_of_le V1.lt z452))
  have V484 : Arv Z h479 bq452 kq452 .byte (4 : Int32) [(.int ((192 : Int32) ||| ((y0 &&& (255 : Int32)) >>> ((6 : Int32) &&& 31))).toInt8.toInt32.toInt8.toInt32), (.int ((128 : Int32) ||| (y0 &&& (63 : Int32))).toInt8.toInt32.toInt8.toInt32), (.int ((192 : Int32) ||| ((y1 &&& (255 : Int32)) >>> ((6 : Int32) &&& 31))).toInt8.toInt32.toInt8.toInt32), (.int 0)] (.int 0) := Arv.set A478 q478 S478 M478 H478 U478 (fits_nar_byte _) W479 2 rfl (Nat.le_of_ble_eq_true rfl)
  have N485 := Fr.snoc X479 N475 g452
  refine own_back st479 ?_
  show OwnGo p e below (T479.setTop (mkF m 89 #[.val (.int (0 : Int32)), .val (.ref t1), .val (.int (1 : Int32)), .val (.int (3 : Int32)), .val (.ref bq452), .val (.ref t1), .val (.int (2 : Int32)), .val (.int (1 : Int32)), .val (.int y1)] [])) _
  refine own_back (fun t k => XS.aload X479.here hx rfl (hb hby eunn_d89) rfl rfl k) ?_
  refine own_back (fun t k => XS.iloadN X479.here hx rfl (hb hby eunn_d91) rfl k) ?_
  refine own_back (fun t k => XS.iinc X479.here hx rfl (hb hby eunn_d92) rfl (l' := #[.val (.int (0 : Int32)), .val (.ref t1), .val (.int (1 : Int32)), .val (.int (4 : Int32)), .val (.ref bq452), .val (.ref t1), .val (.int (2 : Int32)), .val (.int (1 : Int32)), .val (.int y1)]) rfl k) ?_
  show OwnGo p e below (T479.setTop (mkF m 95 #[.val (.int (0 : Int32)), .val (.ref t1), .val (.int (1 : Int32)), .val (.int (4 : Int32)), .val (.ref bq452), .val (.ref t1), .val (.int (2 : Int32)), .val (.int (1 : Int32)), .val (.int y1)] [(.int (3 : Int32)), (.ref bq452)])) _
  refine own_back (fun t k => XS.sipush X479.here hx rfl (hb hby eunn_d95) k) ?_
  refine own_back (fun t k => XS.iload X479.here hx rfl (hb hby eunn_d98) rfl k) ?_
  refine own_back (fun t k => XS.bipush X479.here hx rfl (hb hby eunn_d100) k) ?_
  show OwnGo p e below (T479.setTop (mkF m 102 #[.val (.int (0 : Int32)), .val (.ref t1), .val (.int (1 : Int32)), .val (.int (4 : Int32)), .val (.ref bq452), .val (.ref t1), .val (.int (2 : Int32)), .val (.int (1 : Int32)), .val (.int y1)] [(.int (63 : Int32)), (.int y1), (.int (128 : Int32)), (.int (3 : Int32)), (.ref bq452)])) _
  refine own_back (fun t k => XS.iand X479.here hx rfl (hb hby eunn_d102) rfl k) ?_
  refine own_back (fun t k => XS.ior X479.here hx rfl (hb hby eunn_d103) rfl k) ?_
  refine own_back (fun t k => XS.i2b X479.here hx rfl (hb hby eunn_d104) rfl k) ?_
  show OwnGo p e below (T479.setTop (mkF m 105 #[.val (.int (0 : Int32)), .val (.ref t1), .val (.int (1 : Int32)), .val (.int (4 : Int32)), .val (.ref bq452), .val (.ref t1), .val (.int (2 : Int32)), .val (.int (1 : Int32)), .val (.int y1)] [(.int ((128 : Int32) ||| (y1 &&& (63 : Int32))).toInt8.toInt32), (.int (3 : Int32)), (.ref bq452)])) _
  obtain ⟨c486, A486, q486, S486, M486, H486, U486⟩ := id V484
  obtain ⟨T487, h487, X487, e487, W487, st487⟩ := stB X479 hx hZ e479 A486 (j := (3 : Int32)) (inb_of S486 ⟨by decide, by decide⟩) (g := (mkF m 105 #[.val (.int (0 : Int32)), .val (.ref t1), .val (.int (1 : Int32)), .val (.int (4 : Int32)), .val (.ref bq452), .val (.ref t1), .val (.int (2 : Int32)), .val (.int (1 : Int32)), .val (.int y1)] [(.int ((128 : Int32) ||| (y1 &&& (63 : Int32))).toInt8.toInt32), (.int (3 : Int32)), (.ref bq452)])) rfl rfl (hb hby eunn_d105)
  have O488 := O480.wr W487 g452
  have KP489 := KP481.wr W487 (Or.inr z452)
  have Zs490 := Nat.le_trans Zs482 (Keep.of_wr W487).1
  have f491 := f483.other W487 (Nat.ne_of_lt (Nat.lt_of_lt_of_le V1.lt z452))
  have V492 : Arv Z h487 bq452 kq452 .byte (4 : Int32) [(.int ((192 : Int32) ||| ((y0 &&& (255 : Int32)) >>> ((6 : Int32) &&& 31))).toInt8.toInt32.toInt8.toInt32), (.int ((128 : Int32) ||| (y0 &&& (63 : Int32))).toInt8.toInt32.toInt8.toInt32), (.int ((192 : Int32) ||| ((y1 &&& (255 : Int32)) >>> ((6 : Int32) &&& 31))).toInt8.toInt32.toInt8.toInt32), (.int ((128 : Int32) ||| (y1 &&& (63 : Int32))).toInt8.toInt32.toInt8.toInt32)] (.int 0) := Arv.set A486 q486 S486 M486 H486 U486 (fits_nar_byte _) W487 3 rfl (Nat.le_of_ble_eq_true rfl)
  have N493 := Fr.snoc X487 N485 g452
  refine own_back st487 ?_
  refine own_back (fun t k => XS.goto X487.here hx rfl (pc0 := 106) (pc' := 118) rfl (hb hby eunn_d106) (by decide) (by decide) k) ?_
  refine own_back (fun t k => XS.iinc X487.here hx rfl (hb hby eunn_d118) rfl (l' := #[.val (.int (0 : Int32)), .val (.ref t1), .val (.int (1 : Int32)), .val (.int (4 : Int32)), .val (.ref bq452), .val (.ref t1), .val (.int (2 : Int32)), .val (.int (2 : Int32)), .val (.int y1)]) rfl k) ?_
  show OwnGo p e below (T487.setTop (mkF m 121 #[.val (.int (0 : Int32)), .val (.ref t1), .val (.int (1 : Int32)), .val (.int (4 : Int32)), .val (.ref bq452), .val (.ref t1), .val (.int (2 : Int32)), .val (.int (2 : Int32)), .val (.int y1)] [])) _
  refine own_back (fun t k => XS.goto X487.here hx rfl (pc0 := 121) (pc' := 49) rfl (hb hby eunn_d121) (by decide) (by decide) k) ?_
  refine own_back (fun t k => XS.iload X487.here hx rfl (hb hby eunn_d49) rfl k) ?_
  refine own_back (fun t k => XS.iload X487.here hx rfl (hb hby eunn_d51) rfl k) ?_
  show OwnGo p e below (T487.setTop (mkF m 53 #[.val (.int (0 : Int32)), .val (.ref t1), .val (.int (1 : Int32)), .val (.int (4 : Int32)), .val (.ref bq452), .val (.ref t1), .val (.int (2 : Int32)), .val (.int (2 : Int32)), .val (.int y1)] [(.int (2 : Int32)), (.int (2 : Int32))])) _
  refine own_back (fun t k => XS.icmpYes X487.here hx rfl (pc0 := 53) (pc' := 124) rfl (hb hby eunn_d53) rfl (Jvm.Free.XT.ii_ge_t (by decide)) (by decide) (by decide) k) ?_
  show OwnGo p e below (T487.setTop (mkF m 124 #[.val (.int (0 : Int32)), .val (.ref t1), .val (.int (1 : Int32)), .val (.int (4 : Int32)), .val (.ref bq452), .val (.ref t1), .val (.int (2 : Int32)), .val (.int (2 : Int32)), .val (.int y1)] [])) _
  refine own_back (fun t k => XS.iloadN X487.here hx rfl (hb hby eunn_d124) rfl k) ?_
  refine own_back (fun t k => XS.aload X487.here hx rfl (hb hby eunn_d125) rfl rfl k) ?_
  obtain ⟨c494, A494, q494, S494, M494, H494, U494⟩ := id V492
  refine own_back (fun t k => X487.arraylength hx (own_hat e487 A494.1) (State.isArrayOf_alike hZ.alike A494.2.1) (g := (mkF m 127 #[.val (.int (0 : Int32)), .val (.ref t1), .val (.int (1 : Int32)), .val (.int (4 : Int32)), .val (.ref bq452), .val (.ref t1), .val (.int (2 : Int32)), .val (.int (2 : Int32)), .val (.int y1)] [(.ref bq452), (.int (4 : Int32))])) rfl rfl (hb hby eunn_d127) t k) ?_
  rw [len_of S494 M494]
  show OwnGo p e below (T487.setTop (mkF m 128 #[.val (.int (0 : Int32)), .val (.ref t1), .val (.int (1 : Int32)), .val (.int (4 : Int32)), .val (.ref bq452), .val (.ref t1), .val (.int (2 : Int32)), .val (.int (2 : Int32)), .val (.int y1)] [(.int (4 : Int32)), (.int (4 : Int32))])) _
  refine own_back (fun t k => XS.icmpNo X487.here hx rfl (hb hby eunn_d128) rfl (Jvm.Free.XT.ii_ne_f (by decide)) k) ?_
  show OwnGo p e below (T487.setTop (mkF m 131 #[.val (.int (0 : Int32)), .val (.ref t1), .val (.int (1 : Int32)), .val (.int (4 : Int32)), .val (.ref bq452), .val (.ref t1), .val (.int (2 : Int32)), .val (.int (2 : Int32)), .val (.int y1)] [])) _
  refine own_back (fun t k => XS.aload X487.here hx rfl (hb hby eunn_d131) rfl rfl k) ?_
  refine own_retA X487 hx Bd.notSynchronized Bd.returns rfl rfl (hb hby eunn_d133) e487 (Nat.le_of_ble_eq_true rfl) (Nat.le_of_ble_eq_true rfl) ?_
  exact ⟨_, rfl, N493, own_ext KP489⟩
theorem encnn_d0 : decode jdk_42_method_18_code 0 = .ok (.aload_n 0, 1) := by decide +kernel
theorem encnn_d1 : decode jdk_42_method_18_code 1 = .ok (.getstatic 86, 3) := by decide +kernel
theorem encnn_d4 : decode jdk_42_method_18_code 4 = .ok (.if_acmp .ne 10, 3) := by decide +kernel
theorem encnn_d7 : decode jdk_42_method_18_code 7 = .ok (.iload_n 1, 1) := by decide +kernel
theorem encnn_d8 : decode jdk_42_method_18_code 8 = .ok (.aload_n 2, 1) := by decide +kernel
theorem encnn_d9 : decode jdk_42_method_18_code 9 = .ok (.iconst 1, 1) := by decide +kernel
theorem encnn_d10 : decode jdk_42_method_18_code 10 = .ok (.invokestatic 252, 3) := by decide +kernel
theorem encnn_d13 : decode jdk_42_method_18_code 13 = .ok (.areturn, 1) := by decide +kernel
theorem encnn_pn : plainName "java/lang/String" = true := by first | (simp [plainName, overriddenIn]; done) | decide +kernel
theorem encnn_pd0 : parseMethodDescriptor "(B[BZ)[B" = some ⟨[.byte, (.array .byte), .boolean], some (.array .byte)⟩ := by decide +kernel
theorem encnn_ef (m : MethodId) (x0 : Addr) (x1 : Int32) (x2 : Addr) : entryFrame m #[(.ref x0), (.int x1), (.ref x2)] 3 = mkF m 0 #[.val (.ref x0), .val (.int x1), .val (.ref x2)] [] := by first | (simp [entryFrame, mkF, argsToLocals, Value.category]; done) | rfl
set_option maxRecDepth 65536 in
set_option maxHeartbeats 40000000 in
theorem rm_encnn (l : Launch) (Z : State) (a0 : Array Value) (hw : ∀ d ∈ tables_1, d.before a0 Z = true) (ws : List Jvm.Cond) (t1 : Addr) (k1 : ClassId) (y0 : Int32) (y1 : Int32) (w8 : Addr) (h0 : Heap) (n0 : Nat) (Z0 : n0 ≤ h0.size) (OL : Old Z n0 h0) (V1 : Arv Z h0 t1 k1 .byte (2 : Int32) [.int y0, .int y1] (.int 0)) (X1 : Exa Z h0 t1 "[B") (s0 : y0 < 0) (s1 : y1 < 0) (SI : Sta Z Z.heap "sun/nio/cs/UTF_8" "INSTANCE" "Lsun/nio/cs/UTF_8;" (.ref w8)) :
    MetFree l (⟨"java/lang/String", "encode", "(Ljava/nio/charset/Charset;B[B)[B"⟩ : MethodName) (head1 (Jvm.Cond.code (⟨"java/lang/String", "encode", "(Ljava/nio/charset/Charset;B[B)[B"⟩ : MethodName) jdk_42_method_18_code 3 (some (.array .byte)) :: ws) ({ frames := 3, cells := 2, slots := 8, locals := 115 } : Room)) (fun a U => a = #[(.ref w8), (.int (0 : Int32)), (.ref t1)] ∧ Z.Warmed39 U.vm ∧ U.heap = h0) (fun _ _ _ _ _ => True) (fun _ U o U' => OwnEnd U (fun v h L => ∃ b, v = some (.ref b) ∧ Fr n0 L ∧ Ext h0 h) ({ frames := 3, cells := 2, slots := 8, locals := 115 } : Room).cells ({ frames := 3, cells := 2, slots := 8, locals := 115 } : Room).slots o U') := by
  refine MetFree.of_bodySF (plainFor_of_name encnn_pn) hisR ?_
  intro p e s m args below meth c s₁ Bd hml0 hP hK
  obtain ⟨rfl, hZ, hh⟩ := hP
  have hx := Bd.exec
  have hby := Bd.bytes
  have hml : c.maxLocals = 3 := hml0
  have hown : s.vm.findClass "java/lang/String" = some m.cls := findClass_of_methodNamed Bd.named
  have hnm := (name_of_methodNamed Bd.named Bd.method).1
  have X0 : Stand p l e ({ frames := 3, cells := 2, slots := 8, locals := 115 } : Room) s m #[(.ref w8), (.int (0 : Int32)), (.ref t1)] below meth c s₁ [] 0 0 := Stand.of_body Bd
  have e0 : s₁.heap = h0 := by rw [← hh, Bd.state]; rfl
  have N0 := Fr.nil n0
  have KP0 := Keep.refl h0 []
  refine own_go (Q := (OwnEnd s (fun v h L => ∃ b, v = some (.ref b) ∧ Fr n0 L ∧ Ext h0 h) ({ frames := 3, cells := 2, slots := 8, locals := 115 } : Room).cells ({ frames := 3, cells := 2, slots := 8, locals := 115 } : Room).slots)) ?_
  refine own_back (fun t k => castTop (encnn_ef m w8 (0 : Int32) t1) k) ?_
  show OwnGo p e below (s₁.setTop (mkF m 0 #[.val (.ref w8), .val (.int (0 : Int32)), .val (.ref t1)] [])) _
  refine own_back (fun t k => XS.aloadN X0.here hx rfl (hb hby encnn_d0) rfl rfl k) ?_
  show OwnGo p e below (s₁.setTop (mkF m 1 #[.val (.ref w8), .val (.int (0 : Int32)), .val (.ref t1)] [(.ref w8)])) _
  obtain ⟨T495, X495, e495, st495⟩ := getS2 X0 hx hZ hown (host := "") (Or.inl (hw _ (List.mem_of_getElem? (i := 63) rfl))) Via.refl e0 (SI.ext OL.2) (g := (mkF m 1 #[.val (.ref w8), .val (.int (0 : Int32)), .val (.ref t1)] [(.ref w8)])) rfl (hb hby encnn_d1)
  refine own_back st495 ?_
  show OwnGo p e below (T495.setTop (mkF m 4 #[.val (.ref w8), .val (.int (0 : Int32)), .val (.ref t1)] [(.ref w8), (.ref w8)])) _
  refine own_back (fun t k => Jvm.RoadKit.acmp (g := (mkF m 4 #[.val (.ref w8), .val (.int (0 : Int32)), .val (.ref t1)] [(.ref w8), (.ref w8)])) X495 hx rfl rfl rfl (pc0 := 4) (pc' := 7) (same := true) rfl (hb hby encnn_d4) rfl (decide_eq_true rfl) (by decide) (by decide) k) ?_
  show OwnGo p e below (T495.setTop (mkF m 7 #[.val (.ref w8), .val (.int (0 : Int32)), .val (.ref t1)] [])) _
  refine own_back (fun t k => XS.iloadN X495.here hx rfl (hb hby encnn_d7) rfl k) ?_
  show OwnGo p e below (T495.setTop (mkF m 8 #[.val (.ref w8), .val (.int (0 : Int32)), .val (.ref t1)] [(.int (0 : Int32))])) _
  refine own_back (fun t k => XS.aloadN X495.here hx rfl (hb hby encnn_d8) rfl rfl k) ?_
  show OwnGo p e below (T495.setTop (mkF m 9 #[.val (.ref w8), .val (.int (0 : Int32)), .val (.ref t1)] [(.ref t1), (.int (0 : Int32))])) _
  refine own_back (fun t k => XS.iconst X495.here hx rfl (hb hby encnn_d9) k) ?_
  show OwnGo p e below (T495.setTop (mkF m 10 #[.val (.ref w8), .val (.int (0 : Int32)), .val (.ref t1)] [(.int (1 : Int32)), (.ref t1), (.int (0 : Int32))])) _
  obtain ⟨_, _, ⟨T496, L496, k496, n496⟩, -, X496, ⟨Lc496, hQ496, l496, y496, z496⟩, st496⟩ := Jvm.LawKit.callS X495 hx (y := (⟨"java/lang/String", "encodeUTF8", "(B[BZ)[B"⟩ : MethodName)) hown (mvT hZ (hw _ (List.mem_of_getElem? (i := 65) rfl))) (mvT hZ (hw _ (List.mem_of_getElem? (i := 66) rfl))) (mvT hZ (hw _ (List.mem_of_getElem? (i := 6) rfl))) (mvT hZ (hw _ (List.mem_of_getElem? (i := 67) rfl))) (by decide) (own_backN (W := 0) (rm_eunn l Z a0 hw [] t1 k1 y0 y1 h0 n0 Z0 OL V1 X1 s0 s1) hZ (hw _ (List.mem_of_getElem? (i := 67) rfl)) (hw _ (List.mem_of_getElem? (i := 6) rfl)) (by decide) (by decide)) (g := (mkF m 10 #[.val (.ref w8), .val (.int (0 : Int32)), .val (.ref t1)] [(.int (1 : Int32)), (.ref t1), (.int (0 : Int32))])) rfl (by rw [hml]; rfl) (argsL := [(.int (0 : Int32)), (.ref t1), (.int (1 : Int32))]) (rest := []) (lenOf encnn_pd0 rfl) rfl (by show 2 * 0 + _ ≤ _; exact Nat.le_of_eq rfl) (hb hby encnn_d10) (fun _ _ => ⟨rfl, e495, Nat.le_of_ble_eq_true rfl, Nat.le_of_ble_eq_true rfl⟩)
  dsimp only [Pt.U, Pt.locs, Pt.cells, Pt.slots] at X496 l496 y496 z496 st496 hQ496
  subst l496 y496 z496
  obtain ⟨bq496, rfl, N496q, E496⟩ := hQ496
  refine own_back st496 ?_
  have N496 := Fr.app N0 N496q
  have O497 := OL.ext E496
  have KP498 := KP0.ext E496
  have Zs499 := Nat.le_trans Z0 E496.1
  have f500 := V1.ext E496
  show OwnGo p e below (T496.setTop (mkF m 13 #[.val (.ref w8), .val (.int (0 : Int32)), .val (.ref t1)] [(.ref bq496)])) _
  refine own_retA X496 hx Bd.notSynchronized Bd.returns rfl rfl (hb hby encnn_d13) rfl (Nat.le_of_ble_eq_true rfl) (Nat.le_of_ble_eq_true rfl) ?_
  exact ⟨_, rfl, N496, own_ext KP498⟩
theorem cpnp_d0 : decode jdk_123_method_3_code 0 = .ok (.iload_n 1, 1) := by decide +kernel
theorem cpnp_d1 : decode jdk_123_method_3_code 1 = .ok (.iload_n 2, 1) := by decide +kernel
theorem cpnp_d2 : decode jdk_123_method_3_code 2 = .ok (.iadd, 1) := by decide +kernel
theorem cpnp_d3 : decode jdk_123_method_3_code 3 = .ok (.istore_n 3, 1) := by decide +kernel
theorem cpnp_d4 : decode jdk_123_method_3_code 4 = .ok (.iload_n 1, 1) := by decide +kernel
theorem cpnp_d5 : decode jdk_123_method_3_code 5 = .ok (.istore 4, 2) := by decide +kernel
theorem cpnp_d7 : decode jdk_123_method_3_code 7 = .ok (.iload 4, 2) := by decide +kernel
theorem cpnp_d9 : decode jdk_123_method_3_code 9 = .ok (.iload_n 3, 1) := by decide +kernel
theorem cpnp_d10 : decode jdk_123_method_3_code 10 = .ok (.if_icmp .ge 21, 3) := by decide +kernel
theorem cpnp_d13 : decode jdk_123_method_3_code 13 = .ok (.aload_n 0, 1) := by decide +kernel
theorem cpnp_d14 : decode jdk_123_method_3_code 14 = .ok (.iload 4, 2) := by decide +kernel
theorem cpnp_d16 : decode jdk_123_method_3_code 16 = .ok (.baload, 1) := by decide +kernel
theorem cpnp_d17 : decode jdk_123_method_3_code 17 = .ok (.ifCond .ge 8, 3) := by decide +kernel
theorem cpnp_d20 : decode jdk_123_method_3_code 20 = .ok (.iload 4, 2) := by decide +kernel
theorem cpnp_d22 : decode jdk_123_method_3_code 22 = .ok (.iload_n 1, 1) := by decide +kernel
theorem cpnp_d23 : decode jdk_123_method_3_code 23 = .ok (.isub, 1) := by decide +kernel
theorem cpnp_d24 : decode jdk_123_method_3_code 24 = .ok (.ireturn, 1) := by decide +kernel
theorem cpnp_pn : plainName "java/lang/StringCoding" = true := by first | (simp [plainName, overriddenIn]; done) | decide +kernel
theorem cpnp_ef (m : MethodId) (x0 : Addr) (x1 : Int32) (x2 : Int32) : entryFrame m #[(.ref x0), (.int x1), (.int x2)] 5 = mkF m 0 #[.val (.ref x0), .val (.int x1), .val (.int x2), .unset, .unset] [] := by first | (simp [entryFrame, mkF, argsToLocals, Value.category]; done) | rfl
set_option maxRecDepth 65536 in
set_option maxHeartbeats 40000000 in
theorem rm_cpnp (l : Launch) (Z : State) (a0 : Array Value) (hw : ∀ d ∈ tables_1, d.before a0 Z = true) (ws : List Jvm.Cond) (t1 : Addr) (k1 : ClassId) (y0 : Int32) (y1 : Int32) (h0 : Heap) (n0 : Nat) (Z0 : n0 ≤ h0.size) (V1 : Arv Z h0 t1 k1 .byte (2 : Int32) [.int y0, .int y1] (.int 0)) (s0 : y0 < 0) (s1 : ¬ y1 < 0) :
    MetFree l (⟨"java/lang/StringCoding", "countPositives", "([BII)I"⟩ : MethodName) (head1 (Jvm.Cond.code (⟨"java/lang/StringCoding", "countPositives", "([BII)I"⟩ : MethodName) jdk_123_method_3_code 5 (some .int) :: ws) ({ frames := 0, cells := 0, slots := 0, locals := 0 } : Room)) (fun a U => a = #[(.ref t1), (.int (0 : Int32)), (.int (2 : Int32))] ∧ Z.Warmed39 U.vm ∧ U.heap = h0) (fun _ _ _ _ _ => True) (fun _ U o U' => OwnEnd U (fun v h L => v = some (.int (0 : Int32)) ∧ Fr n0 L ∧ h = h0) ({ frames := 0, cells := 0, slots := 0, locals := 0 } : Room).cells ({ frames := 0, cells := 0, slots := 0, locals := 0 } : Room).slots o U') := by
  refine MetFree.of_bodySF (plainFor_of_name cpnp_pn) hisR ?_
  intro p e s m args below meth c s₁ Bd hml0 hP hK
  obtain ⟨rfl, hZ, hh⟩ := hP
  have hx := Bd.exec
  have hby := Bd.bytes
  have hml : c.maxLocals = 5 := hml0
  have hown : s.vm.findClass "java/lang/StringCoding" = some m.cls := findClass_of_methodNamed Bd.named
  have hnm := (name_of_methodNamed Bd.named Bd.method).1
  have X0 : Stand p l e ({ frames := 0, cells := 0, slots := 0, locals := 0 } : Room) s m #[(.ref t1), (.int (0 : Int32)), (.int (2 : Int32))] below meth c s₁ [] 0 0 := Stand.of_body Bd
  have e0 : s₁.heap = h0 := by rw [← hh, Bd.state]; rfl
  have N0 := Fr.nil n0
  have KP0 := Keep.refl h0 []
  refine own_go (Q := (OwnEnd s (fun v h L => v = some (.int (0 : Int32)) ∧ Fr n0 L ∧ h = h0) ({ frames := 0, cells := 0, slots := 0, locals := 0 } : Room).cells ({ frames := 0, cells := 0, slots := 0, locals := 0 } : Room).slots)) ?_
  refine own_back (fun t k => castTop (cpnp_ef m t1 (0 : Int32) (2 : Int32)) k) ?_
  show OwnGo p e below (s₁.setTop (mkF m 0 #[.val (.ref t1), .val (.int (0 : Int32)), .val (.int (2 : Int32)), .unset, .unset] [])) _
  refine own_back (fun t k => XS.iloadN X0.here hx rfl (hb hby cpnp_d0) rfl k) ?_
  show OwnGo p e below (s₁.setTop (mkF m 1 #[.val (.ref t1), .val (.int (0 : Int32)), .val (.int (2 : Int32)), .unset, .unset] [(.int (0 : Int32))])) _
  refine own_back (fun t k => XS.iloadN X0.here hx rfl (hb hby cpnp_d1) rfl k) ?_
  show OwnGo p e below (s₁.setTop (mkF m 2 #[.val (.ref t1), .val (.int (0 : Int32)), .val (.int (2 : Int32)), .unset, .unset] [(.int (2 : Int32)), (.int (0 : Int32))])) _
  refine own_back (fun t k => XS.iadd X0.here hx rfl (hb hby cpnp_d2) rfl k) ?_
  show OwnGo p e below (s₁.setTop (mkF m 3 #[.val (.ref t1), .val (.int (0 : Int32)), .val (.int (2 : Int32)), .unset, .unset] [(.int (2 : Int32))])) _
  refine own_back (fun t k => XS.istoreN X0.here hx rfl (hb hby cpnp_d3) rfl (l' := #[.val (.ref t1), .val (.int (0 : Int32)), .val (.int (2 : Int32)), .val (.int (2 : Int32)), .unset]) rfl k) ?_
  show OwnGo p e below (s₁.setTop (mkF m 4 #[.val (.ref t1), .val (.int (0 : Int32)), .val (.int (2 : Int32)), .val (.int (2 : Int32)), .unset] [])) _
  refine own_back (fun t k => XS.iloadN X0.here hx rfl (hb hby cpnp_d4) rfl k) ?_
  show OwnGo p e below (s₁.setTop (mkF m 5 #[.val (.ref t1), .val (.int (0 : Int32)), .val (.int (2 : Int32)), .val (.int (2 : Int32)), .unset] [(.int (0 : Int32))])) _
  refine own_back (fun t k => XS.istore X0.here hx rfl (hb hby cpnp_d5) rfl (l' := #[.val (.ref t1), .val (.int (0 : Int32)), .val (.int (2 : Int32)), .val (.int (2 : Int32)), .val (.int (0 : Int32))]) rfl k) ?_
  show OwnGo p e below (s₁.setTop (mkF m 7 #[.val (.ref t1), .val (.int (0 : Int32)), .val (.int (2 : Int32)), .val (.int (2 : Int32)), .val (.int (0 : Int32))] [])) _
  refine own_back (fun t k => XS.iload X0.here hx rfl (hb hby cpnp_d7) rfl k) ?_
  show OwnGo p e below (s₁.setTop (mkF m 9 #[.val (.ref t1), .val (.int (0 : Int32)), .val (.int (2 : Int32)), .val (.int (2 : Int32)), .val (.int (0 : Int32))] [(.int (0 : Int32))])) _
  refine own_back (fun t k => XS.iloadN X0.here hx rfl (hb hby cpnp_d9) rfl k) ?_
  show OwnGo p e below (s₁.setTop (mkF m 10 #[.val (.ref t1), .val (.int (0 : Int32)), .val (.int (2 : Int32)), .val (.int (2 : Int32)), .val (.int (0 : Int32))] [(.int (2 : Int32)), (.int (0 : Int32))])) _
  refine own_back (fun t k => XS.icmpNo X0.here hx rfl (hb hby cpnp_d10) rfl (Jvm.Free.XT.ii_ge_f (by decide)) k) ?_
  show OwnGo p e below (s₁.setTop (mkF m 13 #[.val (.ref t1), .val (.int (0 : Int32)), .val (.int (2 : Int32)), .val (.int (2 : Int32)), .val (.int (0 : Int32))] [])) _
  refine own_back (fun t k => XS.aloadN X0.here hx rfl (hb hby cpnp_d13) rfl rfl k) ?_
  show OwnGo p e below (s₁.setTop (mkF m 14 #[.val (.ref t1), .val (.int (0 : Int32)), .val (.int (2 : Int32)), .val (.int (2 : Int32)), .val (.int (0 : Int32))] [(.ref t1)])) _
  refine own_back (fun t k => XS.iload X0.here hx rfl (hb hby cpnp_d14) rfl k) ?_
  show OwnGo p e below (s₁.setTop (mkF m 16 #[.val (.ref t1), .val (.int (0 : Int32)), .val (.int (2 : Int32)), .val (.int (2 : Int32)), .val (.int (0 : Int32))] [(.int (0 : Int32)), (.ref t1)])) _
  obtain ⟨c501, A501, q501, S501, M501, H501, U501⟩ := id V1
  have ib502 : ¬ ((0 : Int32) < 0 ∨ c501.slots.size ≤ ((0 : Int32)).toNatClampNeg) := (inb_of S501 ⟨by decide, by decide⟩)
  refine own_back (fun t k => X0.baloadBytes hx (j := (0 : Int32)) (v := (.int y0)) (own_hat e0 A501.1) (State.isArrayOf_alike hZ.alike A501.2.1) A501.2.2 ib502 (H501.at ib502 rfl) (g := (mkF m 16 #[.val (.ref t1), .val (.int (0 : Int32)), .val (.int (2 : Int32)), .val (.int (2 : Int32)), .val (.int (0 : Int32))] [(.int (0 : Int32)), (.ref t1)])) rfl rfl (hb hby cpnp_d16) t k) ?_
  show OwnGo p e below (s₁.setTop (mkF m 17 #[.val (.ref t1), .val (.int (0 : Int32)), .val (.int (2 : Int32)), .val (.int (2 : Int32)), .val (.int (0 : Int32))] [(.int y0)])) _
  refine own_back (fun t k => XS.ifNo X0.here hx rfl (hb hby cpnp_d17) rfl (Jvm.Free.XT.i0_ge_f s0) k) ?_
  show OwnGo p e below (s₁.setTop (mkF m 20 #[.val (.ref t1), .val (.int (0 : Int32)), .val (.int (2 : Int32)), .val (.int (2 : Int32)), .val (.int (0 : Int32))] [])) _
  refine own_back (fun t k => XS.iload X0.here hx rfl (hb hby cpnp_d20) rfl k) ?_
  show OwnGo p e below (s₁.setTop (mkF m 22 #[.val (.ref t1), .val (.int (0 : Int32)), .val (.int (2 : Int32)), .val (.int (2 : Int32)), .val (.int (0 : Int32))] [(.int (0 : Int32))])) _
  refine own_back (fun t k => XS.iloadN X0.here hx rfl (hb hby cpnp_d22) rfl k) ?_
  show OwnGo p e below (s₁.setTop (mkF m 23 #[.val (.ref t1), .val (.int (0 : Int32)), .val (.int (2 : Int32)), .val (.int (2 : Int32)), .val (.int (0 : Int32))] [(.int (0 : Int32)), (.int (0 : Int32))])) _
  refine own_back (fun t k => XS.isub X0.here hx rfl (hb hby cpnp_d23) rfl k) ?_
  show OwnGo p e below (s₁.setTop (mkF m 24 #[.val (.ref t1), .val (.int (0 : Int32)), .val (.int (2 : Int32)), .val (.int (2 : Int32)), .val (.int (0 : Int32))] [(.int (0 : Int32))])) _
  refine own_retI X0 hx Bd.notSynchronized Bd.returns (hb hby cpnp_d24) e0 (Nat.le_of_ble_eq_true rfl) (Nat.le_of_ble_eq_true rfl) ?_
  exact ⟨rfl, N0, rfl⟩
theorem hnnp_d0 : decode jdk_123_method_2_code 0 = .ok (.aload_n 0, 1) := by decide +kernel
theorem hnnp_d1 : decode jdk_123_method_2_code 1 = .ok (.iload_n 1, 1) := by decide +kernel
theorem hnnp_d2 : decode jdk_123_method_2_code 2 = .ok (.iload_n 2, 1) := by decide +kernel
theorem hnnp_d3 : decode jdk_123_method_2_code 3 = .ok (.invokestatic 7, 3) := by decide +kernel
theorem hnnp_d6 : decode jdk_123_method_2_code 6 = .ok (.iload_n 2, 1) := by decide +kernel
theorem hnnp_d7 : decode jdk_123_method_2_code 7 = .ok (.if_icmp .eq 7, 3) := by decide +kernel
theorem hnnp_d10 : decode jdk_123_method_2_code 10 = .ok (.iconst 1, 1) := by decide +kernel
theorem hnnp_d11 : decode jdk_123_method_2_code 11 = .ok (.goto 4, 3) := by decide +kernel
theorem hnnp_d15 : decode jdk_123_method_2_code 15 = .ok (.ireturn, 1) := by decide +kernel
theorem hnnp_pn : plainName "java/lang/StringCoding" = true := by first | (simp [plainName, overriddenIn]; done) | decide +kernel
theorem hnnp_pd0 : parseMethodDescriptor "([BII)I" = some ⟨[(.array .byte), .int, .int], some .int⟩ := by decide +kernel
theorem hnnp_ef (m : MethodId) (x0 : Addr) (x1 : Int32) (x2 : Int32) : entryFrame m #[(.ref x0), (.int x1), (.int x2)] 3 = mkF m 0 #[.val (.ref x0), .val (.int x1), .val (.int x2)] [] := by first | (simp [entryFrame, mkF, argsToLocals, Value.category]; done) | rfl
set_option maxRecDepth 65536 in
set_option maxHeartbeats 40000000 in
theorem rm_hnnp (l : Launch) (Z : State) (a0 : Array Value) (hw : ∀ d ∈ tables_1, d.before a0 Z = true) (ws : List Jvm.Cond) (t1 : Addr) (k1 : ClassId) (y0 : Int32) (y1 : Int32) (h0 : Heap) (n0 : Nat) (Z0 : n0 ≤ h0.size) (V1 : Arv Z h0 t1 k1 .byte (2 : Int32) [.int y0, .int y1] (.int 0)) (s0 : y0 < 0) (s1 : ¬ y1 < 0) :
    MetFree l (⟨"java/lang/StringCoding", "hasNegatives", "([BII)Z"⟩ : MethodName) (head1 (Jvm.Cond.code (⟨"java/lang/StringCoding", "hasNegatives", "([BII)Z"⟩ : MethodName) jdk_123_method_2_code 3 (some .boolean) :: ws) ({ frames := 1, cells := 0, slots := 0, locals := 20 } : Room)) (fun a U => a = #[(.ref t1), (.int (0 : Int32)), (.int (2 : Int32))] ∧ Z.Warmed39 U.vm ∧ U.heap = h0) (fun _ _ _ _ _ => True) (fun _ U o U' => OwnEnd U (fun v h L => v = some (.int (1 : Int32)) ∧ Fr n0 L ∧ h = h0) ({ frames := 1, cells := 0, slots := 0, locals := 20 } : Room).cells ({ frames := 1, cells := 0, slots := 0, locals := 20 } : Room).slots o U') := by
  refine MetFree.of_bodySF (plainFor_of_name hnnp_pn) hisR ?_
  intro p e s m args below meth c s₁ Bd hml0 hP hK
  obtain ⟨rfl, hZ, hh⟩ := hP
  have hx := Bd.exec
  have hby := Bd.bytes
  have hml : c.maxLocals = 3 := hml0
  have hown : s.vm.findClass "java/lang/StringCoding" = some m.cls := findClass_of_methodNamed Bd.named
  have hnm := (name_of_methodNamed Bd.named Bd.method).1
  have X0 : Stand p l e ({ frames := 1, cells := 0, slots := 0, locals := 20 } : Room) s m #[(.ref t1), (.int (0 : Int32)), (.int (2 : Int32))] below meth c s₁ [] 0 0 := Stand.of_body Bd
  have e0 : s₁.heap = h0 := by rw [← hh, Bd.state]; rfl
  have N0 := Fr.nil n0
  have KP0 := Keep.refl h0 []
  refine own_go (Q := (OwnEnd s (fun v h L => v = some (.int (1 : Int32)) ∧ Fr n0 L ∧ h = h0) ({ frames := 1, cells := 0, slots := 0, locals := 20 } : Room).cells ({ frames := 1, cells := 0, slots := 0, locals := 20 } : Room).slots)) ?_
  refine own_back (fun t k => castTop (hnnp_ef m t1 (0 : Int32) (2 : Int32)) k) ?_
  show OwnGo p e below (s₁.setTop (mkF m 0 #[.val (.ref t1), .val (.int (0 : Int32)), .val (.int (2 : Int32))] [])) _
  refine own_back (fun t k => XS.aloadN X0.here hx rfl (hb hby hnnp_d0) rfl rfl k) ?_
  show OwnGo p e below (s₁.setTop (mkF m 1 #[.val (.ref t1), .val (.int (0 : Int32)), .val (.int (2 : Int32))] [(.ref t1)])) _
  refine own_back (fun t k => XS.iloadN X0.here hx rfl (hb hby hnnp_d1) rfl k) ?_
  show OwnGo p e below (s₁.setTop (mkF m 2 #[.val (.ref t1), .val (.int (0 : Int32)), .val (.int (2 : Int32))] [(.int (0 : Int32)), (.ref t1)])) _
  refine own_back (fun t k => XS.iloadN X0.here hx rfl (hb hby hnnp_d2) rfl k) ?_
  show OwnGo p e below (s₁.setTop (mkF m 3 #[.val (.ref t1), .val (.int (0 : Int32)), .val (.int (2 : Int32))] [(.int (2 : Int32)), (.int (0 : Int32)), (.ref t1)])) _
  obtain ⟨_, _, ⟨T503, L503, k503, n503⟩, -, X503, ⟨Lc503, hQ503, l503, y503, z503⟩, st503⟩ := Jvm.LawKit.callS X0 hx (y := (⟨"java/lang/StringCoding", "countPositives", "([BII)I"⟩ : MethodName)) hown (mvT hZ (hw _ (List.mem_of_getElem? (i := 72) rfl))) (mvT hZ (hw _ (List.mem_of_getElem? (i := 73) rfl))) (mvT hZ (hw _ (List.mem_of_getElem? (i := 70) rfl))) (mvT hZ (hw _ (List.mem_of_getElem? (i := 74) rfl))) (by decide) (own_backN (W := 0) (rm_cpnp l Z a0 hw [] t1 k1 y0 y1 h0 n0 Z0 V1 s0 s1) hZ (hw _ (List.mem_of_getElem? (i := 74) rfl)) (hw _ (List.mem_of_getElem? (i := 70) rfl)) (by decide) (by decide)) (g := (mkF m 3 #[.val (.ref t1), .val (.int (0 : Int32)), .val (.int (2 : Int32))] [(.int (2 : Int32)), (.int (0 : Int32)), (.ref t1)])) rfl (by rw [hml]; rfl) (argsL := [(.ref t1), (.int (0 : Int32)), (.int (2 : Int32))]) (rest := []) (lenOf hnnp_pd0 rfl) rfl (by show 2 * 0 + _ ≤ _; exact Nat.le_of_eq rfl) (hb hby hnnp_d3) (fun _ _ => ⟨rfl, e0, Nat.le_of_ble_eq_true rfl, Nat.le_of_ble_eq_true rfl⟩)
  dsimp only [Pt.U, Pt.locs, Pt.cells, Pt.slots] at X503 l503 y503 z503 st503 hQ503
  subst l503 y503 z503
  obtain ⟨rfl, N503q, hh503⟩ := hQ503
  refine own_back st503 ?_
  have N503 := Fr.app N0 N503q
  show OwnGo p e below (T503.setTop (mkF m 6 #[.val (.ref t1), .val (.int (0 : Int32)), .val (.int (2 : Int32))] [(.int (0 : Int32))])) _
  refine own_back (fun t k => XS.iloadN X503.here hx rfl (hb hby hnnp_d6) rfl k) ?_
  show OwnGo p e below (T503.setTop (mkF m 7 #[.val (.ref t1), .val (.int (0 : Int32)), .val (.int (2 : Int32))] [(.int (2 : Int32)), (.int (0 : Int32))])) _
  refine own_back (fun t k => XS.icmpNo X503.here hx rfl (hb hby hnnp_d7) rfl (Jvm.Free.XT.ii_eq_f (by decide)) k) ?_
  show OwnGo p e below (T503.setTop (mkF m 10 #[.val (.ref t1), .val (.int (0 : Int32)), .val (.int (2 : Int32))] [])) _
  refine own_back (fun t k => XS.iconst X503.here hx rfl (hb hby hnnp_d10) k) ?_
  show OwnGo p e below (T503.setTop (mkF m 11 #[.val (.ref t1), .val (.int (0 : Int32)), .val (.int (2 : Int32))] [(.int (1 : Int32))])) _
  refine own_back (fun t k => XS.goto X503.here hx rfl (pc0 := 11) (pc' := 15) rfl (hb hby hnnp_d11) (by decide) (by decide) k) ?_
  show OwnGo p e below (T503.setTop (mkF m 15 #[.val (.ref t1), .val (.int (0 : Int32)), .val (.int (2 : Int32))] [(.int (1 : Int32))])) _
  refine own_retN X503 hx Bd.notSynchronized (t := .boolean) (z := (1 : Int32)) Bd.returns (by simp) rfl (hb hby hnnp_d15) hh503 (Nat.le_of_ble_eq_true rfl) (Nat.le_of_ble_eq_true rfl) ?_
  exact ⟨rfl, N503, rfl⟩
theorem eunp_d0 : decode jdk_42_method_46_code 0 = .ok (.iload_n 0, 1) := by decide +kernel
theorem eunp_d1 : decode jdk_42_method_46_code 1 = .ok (.iconst 1, 1) := by decide +kernel
theorem eunp_d2 : decode jdk_42_method_46_code 2 = .ok (.if_icmp .ne 9, 3) := by decide +kernel
theorem eunp_d11 : decode jdk_42_method_46_code 11 = .ok (.aload_n 1, 1) := by decide +kernel
theorem eunp_d12 : decode jdk_42_method_46_code 12 = .ok (.iconst 0, 1) := by decide +kernel
theorem eunp_d13 : decode jdk_42_method_46_code 13 = .ok (.aload_n 1, 1) := by decide +kernel
theorem eunp_d14 : decode jdk_42_method_46_code 14 = .ok (.arraylength, 1) := by decide +kernel
theorem eunp_d15 : decode jdk_42_method_46_code 15 = .ok (.invokestatic 128, 3) := by decide +kernel
theorem eunp_d18 : decode jdk_42_method_46_code 18 = .ok (.ifCond .ne 11, 3) := by decide +kernel
theorem eunp_d29 : decode jdk_42_method_46_code 29 = .ok (.iconst 0, 1) := by decide +kernel
theorem eunp_d30 : decode jdk_42_method_46_code 30 = .ok (.istore_n 3, 1) := by decide +kernel
theorem eunp_d31 : decode jdk_42_method_46_code 31 = .ok (.aload_n 1, 1) := by decide +kernel
theorem eunp_d32 : decode jdk_42_method_46_code 32 = .ok (.arraylength, 1) := by decide +kernel
theorem eunp_d33 : decode jdk_42_method_46_code 33 = .ok (.invokestatic 60, 3) := by decide +kernel
theorem eunp_d36 : decode jdk_42_method_46_code 36 = .ok (.astore 4, 2) := by decide +kernel
theorem eunp_d38 : decode jdk_42_method_46_code 38 = .ok (.aload_n 1, 1) := by decide +kernel
theorem eunp_d39 : decode jdk_42_method_46_code 39 = .ok (.astore 5, 2) := by decide +kernel
theorem eunp_d41 : decode jdk_42_method_46_code 41 = .ok (.aload 5, 2) := by decide +kernel
theorem eunp_d43 : decode jdk_42_method_46_code 43 = .ok (.arraylength, 1) := by decide +kernel
theorem eunp_d44 : decode jdk_42_method_46_code 44 = .ok (.istore 6, 2) := by decide +kernel
theorem eunp_d46 : decode jdk_42_method_46_code 46 = .ok (.iconst 0, 1) := by decide +kernel
theorem eunp_d47 : decode jdk_42_method_46_code 47 = .ok (.istore 7, 2) := by decide +kernel
theorem eunp_d49 : decode jdk_42_method_46_code 49 = .ok (.iload 7, 2) := by decide +kernel
theorem eunp_d51 : decode jdk_42_method_46_code 51 = .ok (.iload 6, 2) := by decide +kernel
theorem eunp_d53 : decode jdk_42_method_46_code 53 = .ok (.if_icmp .ge 71, 3) := by decide +kernel
theorem eunp_d56 : decode jdk_42_method_46_code 56 = .ok (.aload 5, 2) := by decide +kernel
theorem eunp_d58 : decode jdk_42_method_46_code 58 = .ok (.iload 7, 2) := by decide +kernel
theorem eunp_d60 : decode jdk_42_method_46_code 60 = .ok (.baload, 1) := by decide +kernel
theorem eunp_d61 : decode jdk_42_method_46_code 61 = .ok (.istore 8, 2) := by decide +kernel
theorem eunp_d63 : decode jdk_42_method_46_code 63 = .ok (.iload 8, 2) := by decide +kernel
theorem eunp_d65 : decode jdk_42_method_46_code 65 = .ok (.ifCond .ge 44, 3) := by decide +kernel
theorem eunp_d68 : decode jdk_42_method_46_code 68 = .ok (.aload 4, 2) := by decide +kernel
theorem eunp_d70 : decode jdk_42_method_46_code 70 = .ok (.iload_n 3, 1) := by decide +kernel
theorem eunp_d71 : decode jdk_42_method_46_code 71 = .ok (.iinc 3 1, 3) := by decide +kernel
theorem eunp_d74 : decode jdk_42_method_46_code 74 = .ok (.sipush 192, 3) := by decide +kernel
theorem eunp_d77 : decode jdk_42_method_46_code 77 = .ok (.iload 8, 2) := by decide +kernel
theorem eunp_d79 : decode jdk_42_method_46_code 79 = .ok (.sipush 255, 3) := by decide +kernel
theorem eunp_d82 : decode jdk_42_method_46_code 82 = .ok (.iand, 1) := by decide +kernel
theorem eunp_d83 : decode jdk_42_method_46_code 83 = .ok (.bipush 6, 2) := by decide +kernel
theorem eunp_d85 : decode jdk_42_method_46_code 85 = .ok (.ishr, 1) := by decide +kernel
theorem eunp_d86 : decode jdk_42_method_46_code 86 = .ok (.ior, 1) := by decide +kernel
theorem eunp_d87 : decode jdk_42_method_46_code 87 = .ok (.i2b, 1) := by decide +kernel
theorem eunp_d88 : decode jdk_42_method_46_code 88 = .ok (.bastore, 1) := by decide +kernel
theorem eunp_d89 : decode jdk_42_method_46_code 89 = .ok (.aload 4, 2) := by decide +kernel
theorem eunp_d91 : decode jdk_42_method_46_code 91 = .ok (.iload_n 3, 1) := by decide +kernel
theorem eunp_d92 : decode jdk_42_method_46_code 92 = .ok (.iinc 3 1, 3) := by decide +kernel
theorem eunp_d95 : decode jdk_42_method_46_code 95 = .ok (.sipush 128, 3) := by decide +kernel
theorem eunp_d98 : decode jdk_42_method_46_code 98 = .ok (.iload 8, 2) := by decide +kernel
theorem eunp_d100 : decode jdk_42_method_46_code 100 = .ok (.bipush 63, 2) := by decide +kernel
theorem eunp_d102 : decode jdk_42_method_46_code 102 = .ok (.iand, 1) := by decide +kernel
theorem eunp_d103 : decode jdk_42_method_46_code 103 = .ok (.ior, 1) := by decide +kernel
theorem eunp_d104 : decode jdk_42_method_46_code 104 = .ok (.i2b, 1) := by decide +kernel
theorem eunp_d105 : decode jdk_42_method_46_code 105 = .ok (.bastore, 1) := by decide +kernel
theorem eunp_d106 : decode jdk_42_method_46_code 106 = .ok (.goto 12, 3) := by decide +kernel
theorem eunp_d109 : decode jdk_42_method_46_code 109 = .ok (.aload 4, 2) := by decide +kernel
theorem eunp_d111 : decode jdk_42_method_46_code 111 = .ok (.iload_n 3, 1) := by decide +kernel
theorem eunp_d112 : decode jdk_42_method_46_code 112 = .ok (.iinc 3 1, 3) := by decide +kernel
theorem eunp_d115 : decode jdk_42_method_46_code 115 = .ok (.iload 8, 2) := by decide +kernel
theorem eunp_d117 : decode jdk_42_method_46_code 117 = .ok (.bastore, 1) := by decide +kernel
theorem eunp_d118 : decode jdk_42_method_46_code 118 = .ok (.iinc 7 1, 3) := by decide +kernel
theorem eunp_d121 : decode jdk_42_method_46_code 121 = .ok (.goto (-72), 3) := by decide +kernel
theorem eunp_d124 : decode jdk_42_method_46_code 124 = .ok (.iload_n 3, 1) := by decide +kernel
theorem eunp_d125 : decode jdk_42_method_46_code 125 = .ok (.aload 4, 2) := by decide +kernel
theorem eunp_d127 : decode jdk_42_method_46_code 127 = .ok (.arraylength, 1) := by decide +kernel
theorem eunp_d128 : decode jdk_42_method_46_code 128 = .ok (.if_icmp .ne 6, 3) := by decide +kernel
theorem eunp_d134 : decode jdk_42_method_46_code 134 = .ok (.aload 4, 2) := by decide +kernel
theorem eunp_d136 : decode jdk_42_method_46_code 136 = .ok (.iload_n 3, 1) := by decide +kernel
theorem eunp_d137 : decode jdk_42_method_46_code 137 = .ok (.invokestatic 102, 3) := by decide +kernel
theorem eunp_d140 : decode jdk_42_method_46_code 140 = .ok (.areturn, 1) := by decide +kernel
theorem eunp_pn : plainName "java/lang/String" = true := by first | (simp [plainName, overriddenIn]; done) | decide +kernel
theorem eunp_pd0 : parseMethodDescriptor "([BII)Z" = some ⟨[(.array .byte), .int, .int], some .boolean⟩ := by decide +kernel
theorem eunp_pd1 : parseMethodDescriptor "(I)[B" = some ⟨[.int], some (.array .byte)⟩ := by decide +kernel
theorem eunp_pd2 : parseMethodDescriptor "([BI)[B" = some ⟨[(.array .byte), .int], some (.array .byte)⟩ := by decide +kernel
theorem eunp_ef (m : MethodId) (x0 : Int32) (x1 : Addr) (x2 : Int32) : entryFrame m #[(.int x0), (.ref x1), (.int x2)] 9 = mkF m 0 #[.val (.int x0), .val (.ref x1), .val (.int x2), .unset, .unset, .unset, .unset, .unset, .unset] [] := by first | (simp [entryFrame, mkF, argsToLocals, Value.category]; done) | rfl
set_option maxRecDepth 65536 in
set_option maxHeartbeats 40000000 in
theorem rm_eunp (l : Launch) (Z : State) (a0 : Array Value) (hw : ∀ d ∈ tables_1, d.before a0 Z = true) (ws : List Jvm.Cond) (t1 : Addr) (k1 : ClassId) (y0 : Int32) (y1 : Int32) (h0 : Heap) (n0 : Nat) (Z0 : n0 ≤ h0.size) (OL : Old Z n0 h0) (V1 : Arv Z h0 t1 k1 .byte (2 : Int32) [.int y0, .int y1] (.int 0)) (X1 : Exa Z h0 t1 "[B") (s0 : y0 < 0) (s1 : ¬ y1 < 0) :
    MetFree l (⟨"java/lang/String", "encodeUTF8", "(B[BZ)[B"⟩ : MethodName) (head1 (Jvm.Cond.code (⟨"java/lang/String", "encodeUTF8", "(B[BZ)[B"⟩ : MethodName) jdk_42_method_46_code 9 (some (.array .byte)) :: ws) ({ frames := 2, cells := 2, slots := 8, locals := 90 } : Room)) (fun a U => a = #[(.int (0 : Int32)), (.ref t1), (.int (1 : Int32))] ∧ Z.Warmed39 U.vm ∧ U.heap = h0) (fun _ _ _ _ _ => True) (fun _ U o U' => OwnEnd U (fun v h L => ∃ b, v = some (.ref b) ∧ Fr n0 L ∧ Ext h0 h) ({ frames := 2, cells := 2, slots := 8, locals := 90 } : Room).cells ({ frames := 2, cells := 2, slots := 8, locals := 90 } : Room).slots o U') := by
  refine MetFree.of_bodySF (plainFor_of_name eunp_pn) hisR ?_
  intro p e s m args below meth c s₁ Bd hml0 hP hK
  obtain ⟨rfl, hZ, hh⟩ := hP
  have hx := Bd.exec
  have hby := Bd.bytes
  have hml : c.maxLocals = 9 := hml0
  have hown : s.vm.findClass "java/lang/String" = some m.cls := findClass_of_methodNamed Bd.named
  have hnm := (name_of_methodNamed Bd.named Bd.method).1
  have X0 : Stand p l e ({ frames := 2, cells := 2, slots := 8, locals := 90 } : Room) s m #[(.int (0 : Int32)), (.ref t1), (.int (1 : Int32))] below meth c s₁ [] 0 0 := Stand.of_body Bd
  have e0 : s₁.heap = h0 := by rw [← hh, Bd.state]; rfl
  have N0 := Fr.nil n0
  have KP0 := Keep.refl h0 []
  refine own_go (Q := (OwnEnd s (fun v h L => ∃ b, v = some (.ref b) ∧ Fr n0 L ∧ Ext h0 h) ({ frames := 2, cells := 2, slots := 8, locals := 90 } : Room).cells ({ frames := 2, cells := 2, slots := 8, locals := 90 } : Room).slots)) ?_
  refine own_back (fun t k => castTop (eunp_ef m (0 : Int32) t1 (1 : Int32)) k) ?_
  show OwnGo p e below (s₁.setTop (mkF m 0 #[.val (.int (0 : Int32)), .val (.ref t1), .val (.int (1 : Int32)), .unset, .unset, .unset, .unset, .unset, .unset] [])) _
  refine own_back (fun t k => XS.iloadN X0.here hx rfl (hb hby eunp_d0) rfl k) ?_
  refine own_back (fun t k => XS.iconst X0.here hx rfl (hb hby eunp_d1) k) ?_
  refine own_back (fun t k => XS.icmpYes X0.here hx rfl (pc0 := 2) (pc' := 11) rfl (hb hby eunp_d2) rfl (Jvm.Free.XT.ii_ne_t (by decide)) (by decide) (by decide) k) ?_
  show OwnGo p e below (s₁.setTop (mkF m 11 #[.val (.int (0 : Int32)), .val (.ref t1), .val (.int (1 : Int32)), .unset, .unset, .unset, .unset, .unset, .unset] [])) _
  refine own_back (fun t k => XS.aloadN X0.here hx rfl (hb hby eunp_d11) rfl rfl k) ?_
  show OwnGo p e below (s₁.setTop (mkF m 12 #[.val (.int (0 : Int32)), .val (.ref t1), .val (.int (1 : Int32)), .unset, .unset, .unset, .unset, .unset, .unset] [(.ref t1)])) _
  refine own_back (fun t k => XS.iconst X0.here hx rfl (hb hby eunp_d12) k) ?_
  refine own_back (fun t k => XS.aloadN X0.here hx rfl (hb hby eunp_d13) rfl rfl k) ?_
  obtain ⟨c504, A504, q504, S504, M504, H504, U504⟩ := id V1
  refine own_back (fun t k => X0.arraylength hx (own_hat e0 A504.1) (State.isArrayOf_alike hZ.alike A504.2.1) (g := (mkF m 14 #[.val (.int (0 : Int32)), .val (.ref t1), .val (.int (1 : Int32)), .unset, .unset, .unset, .unset, .unset, .unset] [(.ref t1), (.int (0 : Int32)), (.ref t1)])) rfl rfl (hb hby eunp_d14) t k) ?_
  rw [len_of S504 M504]
  show OwnGo p e below (s₁.setTop (mkF m 15 #[.val (.int (0 : Int32)), .val (.ref t1), .val (.int (1 : Int32)), .unset, .unset, .unset, .unset, .unset, .unset] [(.int (2 : Int32)), (.int (0 : Int32)), (.ref t1)])) _
  obtain ⟨_, _, ⟨T505, L505, k505, n505⟩, -, X505, ⟨Lc505, hQ505, l505, y505, z505⟩, st505⟩ := Jvm.LawKit.callS X0 hx (y := (⟨"java/lang/StringCoding", "hasNegatives", "([BII)Z"⟩ : MethodName)) hown (mvT hZ (hw _ (List.mem_of_getElem? (i := 68) rfl))) (mvT hZ (hw _ (List.mem_of_getElem? (i := 69) rfl))) (mvT hZ (hw _ (List.mem_of_getElem? (i := 70) rfl))) (mvT hZ (hw _ (List.mem_of_getElem? (i := 71) rfl))) (by decide) (own_backN (W := 0) (rm_hnnp l Z a0 hw [] t1 k1 y0 y1 h0 n0 Z0 V1 s0 s1) hZ (hw _ (List.mem_of_getElem? (i := 71) rfl)) (hw _ (List.mem_of_getElem? (i := 70) rfl)) (by decide) (by decide)) (g := (mkF m 15 #[.val (.int (0 : Int32)), .val (.ref t1), .val (.int (1 : Int32)), .unset, .unset, .unset, .unset, .unset, .unset] [(.int (2 : Int32)), (.int (0 : Int32)), (.ref t1)])) rfl (by rw [hml]; rfl) (argsL := [(.ref t1), (.int (0 : Int32)), (.int (2 : Int32))]) (rest := []) (lenOf eunp_pd0 rfl) rfl (by show 2 * 0 + _ ≤ _; exact Nat.le_of_eq rfl) (hb hby eunp_d15) (fun _ _ => ⟨rfl, e0, Nat.le_of_ble_eq_true rfl, Nat.le_of_ble_eq_true rfl⟩)
  dsimp only [Pt.U, Pt.locs, Pt.cells, Pt.slots] at X505 l505 y505 z505 st505 hQ505
  subst l505 y505 z505
  obtain ⟨rfl, N505q, hh505⟩ := hQ505
  refine own_back st505 ?_
  have N505 := Fr.app N0 N505q
  show OwnGo p e below (T505.setTop (mkF m 18 #[.val (.int (0 : Int32)), .val (.ref t1), .val (.int (1 : Int32)), .unset, .unset, .unset, .unset, .unset, .unset] [(.int (1 : Int32))])) _
  refine own_back (fun t k => XS.ifYes X505.here hx rfl (pc0 := 18) (pc' := 29) rfl (hb hby eunp_d18) rfl (Jvm.Free.XT.i0_ne_t (by decide)) (by decide) (by decide) k) ?_
  show OwnGo p e below (T505.setTop (mkF m 29 #[.val (.int (0 : Int32)), .val (.ref t1), .val (.int (1 : Int32)), .unset, .unset, .unset, .unset, .unset, .unset] [])) _
  refine own_back (fun t k => XS.iconst X505.here hx rfl (hb hby eunp_d29) k) ?_
  refine own_back (fun t k => XS.istoreN X505.here hx rfl (hb hby eunp_d30) rfl (l' := #[.val (.int (0 : Int32)), .val (.ref t1), .val (.int (1 : Int32)), .val (.int (0 : Int32)), .unset, .unset, .unset, .unset, .unset]) rfl k) ?_
  refine own_back (fun t k => XS.aloadN X505.here hx rfl (hb hby eunp_d31) rfl rfl k) ?_
  show OwnGo p e below (T505.setTop (mkF m 32 #[.val (.int (0 : Int32)), .val (.ref t1), .val (.int (1 : Int32)), .val (.int (0 : Int32)), .unset, .unset, .unset, .unset, .unset] [(.ref t1)])) _
  obtain ⟨c506, A506, q506, S506, M506, H506, U506⟩ := id V1
  refine own_back (fun t k => X505.arraylength hx (own_hat hh505 A506.1) (State.isArrayOf_alike hZ.alike A506.2.1) (g := (mkF m 32 #[.val (.int (0 : Int32)), .val (.ref t1), .val (.int (1 : Int32)), .val (.int (0 : Int32)), .unset, .unset, .unset, .unset, .unset] [(.ref t1)])) rfl rfl (hb hby eunp_d32) t k) ?_
  rw [len_of S506 M506]
  obtain ⟨_, _, ⟨T507, L507, k507, n507⟩, -, X507, ⟨Lc507, hQ507, l507, y507, z507⟩, st507⟩ := Jvm.LawKit.callS X505 hx (y := (⟨"java/lang/StringUTF16", "newBytesFor", "(I)[B"⟩ : MethodName)) hown (mvT hZ (hw _ (List.mem_of_getElem? (i := 122) rfl))) (mvT hZ (hw _ (List.mem_of_getElem? (i := 123) rfl))) (mvT hZ (hw _ (List.mem_of_getElem? (i := 112) rfl))) (mvT hZ (hw _ (List.mem_of_getElem? (i := 124) rfl))) (by decide) (own_backN (W := 0) (rm_nbf2 l Z a0 hw [] h0 n0 Z0 OL) hZ (hw _ (List.mem_of_getElem? (i := 124) rfl)) (hw _ (List.mem_of_getElem? (i := 112) rfl)) (by decide) (by decide)) (g := (mkF m 33 #[.val (.int (0 : Int32)), .val (.ref t1), .val (.int (1 : Int32)), .val (.int (0 : Int32)), .unset, .unset, .unset, .unset, .unset] [(.int (2 : Int32))])) rfl (by rw [hml]; rfl) (argsL := [(.int (2 : Int32))]) (rest := []) (lenOf eunp_pd1 rfl) rfl (by show 2 * 0 + _ ≤ _; exact Nat.le_of_eq rfl) (hb hby eunp_d33) (fun _ _ => ⟨rfl, hh505, Nat.le_of_ble_eq_true rfl, Nat.le_of_ble_eq_true rfl⟩)
  dsimp only [Pt.U, Pt.locs, Pt.cells, Pt.slots] at X507 l507 y507 z507 st507 hQ507
  subst l507 y507 z507
  obtain ⟨bq507, kq507, rfl, N507q, E507, g507, z507, V507⟩ := hQ507
  refine own_back st507 ?_
  have N507 := Fr.app N505 N507q
  have O508 := OL.ext E507
  have KP509 := KP0.ext E507
  have Zs510 := Nat.le_trans Z0 E507.1
  have f511 := V1.ext E507
  show OwnGo p e below (T507.setTop (mkF m 36 #[.val (.int (0 : Int32)), .val (.ref t1), .val (.int (1 : Int32)), .val (.int (0 : Int32)), .unset, .unset, .unset, .unset, .unset] [(.ref bq507)])) _
  refine own_back (fun t k => XS.astore X507.here hx rfl (hb hby eunp_d36) rfl rfl (l' := #[.val (.int (0 : Int32)), .val (.ref t1), .val (.int (1 : Int32)), .val (.int (0 : Int32)), .val (.ref bq507), .unset, .unset, .unset, .unset]) rfl k) ?_
  refine own_back (fun t k => XS.aloadN X507.here hx rfl (hb hby eunp_d38) rfl rfl k) ?_
  show OwnGo p e below (T507.setTop (mkF m 39 #[.val (.int (0 : Int32)), .val (.ref t1), .val (.int (1 : Int32)), .val (.int (0 : Int32)), .val (.ref bq507), .unset, .unset, .unset, .unset] [(.ref t1)])) _
  refine own_back (fun t k => XS.astore X507.here hx rfl (hb hby eunp_d39) rfl rfl (l' := #[.val (.int (0 : Int32)), .val (.ref t1), .val (.int (1 : Int32)), .val (.int (0 : Int32)), .val (.ref bq507), .val (.ref t1), .unset, .unset, .unset]) rfl k) ?_
  refine own_back (fun t k => XS.aload X507.here hx rfl (hb hby eunp_d41) rfl rfl k) ?_
  obtain ⟨c512, A512, q512, S512, M512, H512, U512⟩ := id f511
  refine own_back (fun t k => X507.arraylength hx (own_hat rfl A512.1) (State.isArrayOf_alike hZ.alike A512.2.1) (g := (mkF m 43 #[.val (.int (0 : Int32)), .val (.ref t1), .val (.int (1 : Int32)), .val (.int (0 : Int32)), .val (.ref bq507), .val (.ref t1), .unset, .unset, .unset] [(.ref t1)])) rfl rfl (hb hby eunp_d43) t k) ?_
  rw [len_of S512 M512]
  show OwnGo p e below (T507.setTop (mkF m 44 #[.val (.int (0 : Int32)), .val (.ref t1), .val (.int (1 : Int32)), .val (.int (0 : Int32)), .val (.ref bq507), .val (.ref t1), .unset, .unset, .unset] [(.int (2 : Int32))])) _
  refine own_back (fun t k => XS.istore X507.here hx rfl (hb hby eunp_d44) rfl (l' := #[.val (.int (0 : Int32)), .val (.ref t1), .val (.int (1 : Int32)), .val (.int (0 : Int32)), .val (.ref bq507), .val (.ref t1), .val (.int (2 : Int32)), .unset, .unset]) rfl k) ?_
  refine own_back (fun t k => XS.iconst X507.here hx rfl (hb hby eunp_d46) k) ?_
  refine own_back (fun t k => XS.istore X507.here hx rfl (hb hby eunp_d47) rfl (l' := #[.val (.int (0 : Int32)), .val (.ref t1), .val (.int (1 : Int32)), .val (.int (0 : Int32)), .val (.ref bq507), .val (.ref t1), .val (.int (2 : Int32)), .val (.int (0 : Int32)), .unset]) rfl k) ?_
  show OwnGo p e below (T507.setTop (mkF m 49 #[.val (.int (0 : Int32)), .val (.ref t1), .val (.int (1 : Int32)), .val (.int (0 : Int32)), .val (.ref bq507), .val (.ref t1), .val (.int (2 : Int32)), .val (.int (0 : Int32)), .unset] [])) _
  refine own_back (fun t k => XS.iload X507.here hx rfl (hb hby eunp_d49) rfl k) ?_
  refine own_back (fun t k => XS.iload X507.here hx rfl (hb hby eunp_d51) rfl k) ?_
  refine own_back (fun t k => XS.icmpNo X507.here hx rfl (hb hby eunp_d53) rfl (Jvm.Free.XT.ii_ge_f (by decide)) k) ?_
  show OwnGo p e below (T507.setTop (mkF m 56 #[.val (.int (0 : Int32)), .val (.ref t1), .val (.int (1 : Int32)), .val (.int (0 : Int32)), .val (.ref bq507), .val (.ref t1), .val (.int (2 : Int32)), .val (.int (0 : Int32)), .unset] [])) _
  refine own_back (fun t k => XS.aload X507.here hx rfl (hb hby eunp_d56) rfl rfl k) ?_
  show OwnGo p e below (T507.setTop (mkF m 58 #[.val (.int (0 : Int32)), .val (.ref t1), .val (.int (1 : Int32)), .val (.int (0 : Int32)), .val (.ref bq507), .val (.ref t1), .val (.int (2 : Int32)), .val (.int (0 : Int32)), .unset] [(.ref t1)])) _
  refine own_back (fun t k => XS.iload X507.here hx rfl (hb hby eunp_d58) rfl k) ?_
  obtain ⟨c513, A513, q513, S513, M513, H513, U513⟩ := id f511
  have ib514 : ¬ ((0 : Int32) < 0 ∨ c513.slots.size ≤ ((0 : Int32)).toNatClampNeg) := (inb_of S513 ⟨by decide, by decide⟩)
  refine own_back (fun t k => X507.baloadBytes hx (j := (0 : Int32)) (v := (.int y0)) (own_hat rfl A513.1) (State.isArrayOf_alike hZ.alike A513.2.1) A513.2.2 ib514 (H513.at ib514 rfl) (g := (mkF m 60 #[.val (.int (0 : Int32)), .val (.ref t1), .val (.int (1 : Int32)), .val (.int (0 : Int32)), .val (.ref bq507), .val (.ref t1), .val (.int (2 : Int32)), .val (.int (0 : Int32)), .unset] [(.int (0 : Int32)), (.ref t1)])) rfl rfl (hb hby eunp_d60) t k) ?_
  refine own_back (fun t k => XS.istore X507.here hx rfl (hb hby eunp_d61) rfl (l' := #[.val (.int (0 : Int32)), .val (.ref t1), .val (.int (1 : Int32)), .val (.int (0 : Int32)), .val (.ref bq507), .val (.ref t1), .val (.int (2 : Int32)), .val (.int (0 : Int32)), .val (.int y0)]) rfl k) ?_
  show OwnGo p e below (T507.setTop (mkF m 63 #[.val (.int (0 : Int32)), .val (.ref t1), .val (.int (1 : Int32)), .val (.int (0 : Int32)), .val (.ref bq507), .val (.ref t1), .val (.int (2 : Int32)), .val (.int (0 : Int32)), .val (.int y0)] [])) _
  refine own_back (fun t k => XS.iload X507.here hx rfl (hb hby eunp_d63) rfl k) ?_
  refine own_back (fun t k => XS.ifNo X507.here hx rfl (hb hby eunp_d65) rfl (Jvm.Free.XT.i0_ge_f s0) k) ?_
  show OwnGo p e below (T507.setTop (mkF m 68 #[.val (.int (0 : Int32)), .val (.ref t1), .val (.int (1 : Int32)), .val (.int (0 : Int32)), .val (.ref bq507), .val (.ref t1), .val (.int (2 : Int32)), .val (.int (0 : Int32)), .val (.int y0)] [])) _
  refine own_back (fun t k => XS.aload X507.here hx rfl (hb hby eunp_d68) rfl rfl k) ?_
  refine own_back (fun t k => XS.iloadN X507.here hx rfl (hb hby eunp_d70) rfl k) ?_
  show OwnGo p e below (T507.setTop (mkF m 71 #[.val (.int (0 : Int32)), .val (.ref t1), .val (.int (1 : Int32)), .val (.int (0 : Int32)), .val (.ref bq507), .val (.ref t1), .val (.int (2 : Int32)), .val (.int (0 : Int32)), .val (.int y0)] [(.int (0 : Int32)), (.ref bq507)])) _
  refine own_back (fun t k => XS.iinc X507.here hx rfl (hb hby eunp_d71) rfl (l' := #[.val (.int (0 : Int32)), .val (.ref t1), .val (.int (1 : Int32)), .val (.int (1 : Int32)), .val (.ref bq507), .val (.ref t1), .val (.int (2 : Int32)), .val (.int (0 : Int32)), .val (.int y0)]) rfl k) ?_
  refine own_back (fun t k => XS.sipush X507.here hx rfl (hb hby eunp_d74) k) ?_
  refine own_back (fun t k => XS.iload X507.here hx rfl (hb hby eunp_d77) rfl k) ?_
  show OwnGo p e below (T507.setTop (mkF m 79 #[.val (.int (0 : Int32)), .val (.ref t1), .val (.int (1 : Int32)), .val (.int (1 : Int32)), .val (.ref bq507), .val (.ref t1), .val (.int (2 : Int32)), .val (.int (0 : Int32)), .val (.int y0)] [(.int y0), (.int (192 : Int32)), (.int (0 : Int32)), (.ref bq507)])) _
  refine own_back (fun t k => XS.sipush X507.here hx rfl (hb hby eunp_d79) k) ?_
  refine own_back (fun t k => XS.iand X507.here hx rfl (hb hby eunp_d82) rfl k) ?_
  refine own_back (fun t k => XS.bipush X507.here hx rfl (hb hby eunp_d83) k) ?_
  show OwnGo p e below (T507.setTop (mkF m 85 #[.val (.int (0 : Int32)), .val (.ref t1), .val (.int (1 : Int32)), .val (.int (1 : Int32)), .val (.ref bq507), .val (.ref t1), .val (.int (2 : Int32)), .val (.int (0 : Int32)), .val (.int y0)] [(.int (6 : Int32)), (.int (y0 &&& (255 : Int32))), (.int (192 : Int32)), (.int (0 : Int32)), (.ref bq507)])) _
  refine own_back (fun t k => XS.ishr X507.here hx rfl (hb hby eunp_d85) rfl k) ?_
  refine own_back (fun t k => XS.ior X507.here hx rfl (hb hby eunp_d86) rfl k) ?_
  refine own_back (fun t k => XS.i2b X507.here hx rfl (hb hby eunp_d87) rfl k) ?_
  show OwnGo p e below (T507.setTop (mkF m 88 #[.val (.int (0 : Int32)), .val (.ref t1), .val (.int (1 : Int32)), .val (.int (1 : Int32)), .val (.ref bq507), .val (.ref t1), .val (.int (2 : Int32)), .val (.int (0 : Int32)), .val (.int y0)] [(.int ((192 : Int32) ||| ((y0 &&& (255 : Int32)) >>> ((6 : Int32) &&& 31))).toInt8.toInt32), (.int (0 : Int32)), (.ref bq507)])) _
  obtain ⟨c515, A515, q515, S515, M515, H515, U515⟩ := id V507
  obtain ⟨T516, h516, X516, e516, W516, st516⟩ := stB X507 hx hZ rfl A515 (j := (0 : Int32)) (inb_of S515 ⟨by decide, by decide⟩) (g := (mkF m 88 #[.val (.int (0 : Int32)), .val (.ref t1), .val (.int (1 : Int32)), .val (.int (1 : Int32)), .val (.ref bq507), .val (.ref t1), .val (.int (2 : Int32)), .val (.int (0 : Int32)), .val (.int y0)] [(.int ((192 : Int32) ||| ((y0 &&& (255 : Int32)) >>> ((6 : Int32) &&& 31))).toInt8.toInt32), (.int (0 : Int32)), (.ref bq507)])) rfl rfl (hb hby eunp_d88)
  have O517 := O508.wr W516 g507
  have KP518 := KP509.wr W516 (Or.inr z507)
  have Zs519 := Nat.le_trans Zs510 (Keep.of_wr W516).1
  have f520 := f511.other W516 (Nat.ne_of_lt (Nat.lt_of_lt_of_le V1.lt z507))
  have V521 : Arv Z h516 bq507 kq507 .byte (4 : Int32) [(.int ((192 : Int32) ||| ((y0 &&& (255 : Int32)) >>> ((6 : Int32) &&& 31))).toInt8.toInt32.toInt8.toInt32), (.int 0), (.int 0), (.int 0)] (.int 0) := Arv.set A515 q515 S515 M515 H515 U515 (fits_nar_byte _) W516 0 rfl (Nat.le_of_ble_eq_true rfl)
  have N522 := Fr.snoc X516 N507 g507
  refine own_back st516 ?_
  refine own_back (fun t k => XS.aload X516.here hx rfl (hb hby eunp_d89) rfl rfl k) ?_
  refine own_back (fun t k => XS.iloadN X516.here hx rfl (hb hby eunp_d91) rfl k) ?_
  show OwnGo p e below (T516.setTop (mkF m 92 #[.val (.int (0 : Int32)), .val (.ref t1), .val (.int (1 : Int32)), .val (.int (1 : Int32)), .val (.ref bq507), .val (.ref t1), .val (.int (2 : Int32)), .val (.int (0 : Int32)), .val (.int y0)] [(.int (1 : Int32)), (.ref bq507)])) _
  refine own_back (fun t k => XS.iinc X516.here hx rfl (hb hby eunp_d92) rfl (l' := #[.val (.int (0 : Int32)), .val (.ref t1), .val (.int (1 : Int32)), .val (.int (2 : Int32)), .val (.ref bq507), .val (.ref t1), .val (.int (2 : Int32)), .val (.int (0 : Int32)), .val (.int y0)]) rfl k) ?_
  refine own_back (fun t k => XS.sipush X516.here hx rfl (hb hby eunp_d95) k) ?_
  refine own_back (fun t k => XS.iload X516.here hx rfl (hb hby eunp_d98) rfl k) ?_
  show OwnGo p e below (T516.setTop (mkF m 100 #[.val (.int (0 : Int32)), .val (.ref t1), .val (.int (1 : Int32)), .val (.int (2 : Int32)), .val (.ref bq507), .val (.ref t1), .val (.int (2 : Int32)), .val (.int (0 : Int32)), .val (.int y0)] [(.int y0), (.int (128 : Int32)), (.int (1 : Int32)), (.ref bq507)])) _
  refine own_back (fun t k => XS.bipush X516.here hx rfl (hb hby eunp_d100) k) ?_
  refine own_back (fun t k => XS.iand X516.here hx rfl (hb hby eunp_d102) rfl k) ?_
  refine own_back (fun t k => XS.ior X516.here hx rfl (hb hby eunp_d103) rfl k) ?_
  show OwnGo p e below (T516.setTop (mkF m 104 #[.val (.int (0 : Int32)), .val (.ref t1), .val (.int (1 : Int32)), .val (.int (2 : Int32)), .val (.ref bq507), .val (.ref t1), .val (.int (2 : Int32)), .val (.int (0 : Int32)), .val (.int y0)] [(.int ((128 : Int32) ||| (y0 &&& (63 : Int32)))), (.int (1 : Int32)), (.ref bq507)])) _
  refine own_back (fun t k => XS.i2b X516.here hx rfl (hb hby eunp_d104) rfl k) ?_
  obtain ⟨c523, A523, q523, S523, M523, H523, U523⟩ := id V521
  obtain ⟨T524, h524, X524, e524, W524, st524⟩ := stB X516 hx hZ e516 A523 (j := (1 : Int32)) (inb_of S523 ⟨by decide, by decide⟩) (g := (mkF m 105 #[.val (.int (0 : Int32)), .val (.ref t1), .val (.int (1 : Int32)), .val (.int (2 : Int32)), .val (.ref bq507), .val (.ref t1), .val (.int (2 : Int32)), .val (.int (0 : Int32)), .val (.int y0)] [(.int ((128 : Int32) ||| (y0 &&& (63 : Int32))).toInt8.toInt32), (.int (1 : Int32)), (.ref bq507)])) rfl rfl (hb hby eunp_d105)
  have O525 := O517.wr W524 g507
  have KP526 := KP518.wr W524 (Or.inr z507)
  have Zs527 := Nat.le_trans Zs519 (Keep.of_wr W524).1
  have f528 := f520.other W524 (Nat.ne_of_lt (Nat.lt_of_lt_of_le V1.lt z507))
  have V529 : Arv Z h524 bq507 kq507 .byte (4 : Int32) [(.int ((192 : Int32) ||| ((y0 &&& (255 : Int32)) >>> ((6 : Int32) &&& 31))).toInt8.toInt32.toInt8.toInt32), (.int ((128 : Int32) ||| (y0 &&& (63 : Int32))).toInt8.toInt32.toInt8.toInt32), (.int 0), (.int 0)] (.int 0) := Arv.set A523 q523 S523 M523 H523 U523 (fits_nar_byte _) W524 1 rfl (Nat.le_of_ble_eq_true rfl)
  have N530 := Fr.snoc X524 N522 g507
  refine own_back st524 ?_
  refine own_back (fun t k => XS.goto X524.here hx rfl (pc0 := 106) (pc' := 118) rfl (hb hby eunp_d106) (by decide) (by decide) k) ?_
  show OwnGo p e below (T524.setTop (mkF m 118 #[.val (.int (0 : Int32)), .val (.ref t1), .val (.int (1 : Int32)), .val (.int (2 : Int32)), .val (.ref bq507), .val (.ref t1), .val (.int (2 : Int32)), .val (.int (0 : Int32)), .val (.int y0)] [])) _
  refine own_back (fun t k => XS.iinc X524.here hx rfl (hb hby eunp_d118) rfl (l' := #[.val (.int (0 : Int32)), .val (.ref t1), .val (.int (1 : Int32)), .val (.int (2 : Int32)), .val (.ref bq507), .val (.ref t1), .val (.int (2 : Int32)), .val (.int (1 : Int32)), .val (.int y0)]) rfl k) ?_
  refine own_back (fun t k => XS.goto X524.here hx rfl (pc0 := 121) (pc' := 49) rfl (hb hby eunp_d121) (by decide) (by decide) k) ?_
  refine own_back (fun t k => XS.iload X524.here hx rfl (hb hby eunp_d49) rfl k) ?_
  show OwnGo p e below (T524.setTop (mkF m 51 #[.val (.int (0 : Int32)), .val (.ref t1), .val (.int (1 : Int32)), .val (.int (2 : Int32)), .val (.ref bq507), .val (.ref t1), .val (.int (2 : Int32)), .val (.int (1 : Int32)), .val (.int y0)] [(.int (1 : Int32))])) _
  refine own_back (fun t k => XS.iload X524.here hx rfl (hb hby eunp_d51) rfl k) ?_
  refine own_back (fun t k => XS.icmpNo X524.here hx rfl (hb hby eunp_d53) rfl (Jvm.Free.XT.ii_ge_f (by decide)) k) ?_
  show OwnGo p e below (T524.setTop (mkF m 56 #[.val (.int (0 : Int32)), .val (.ref t1), .val (.int (1 : Int32)), .val (.int (2 : Int32)), .val (.ref bq507), .val (.ref t1), .val (.int (2 : Int32)), .val (.int (1 : Int32)), .val (.int y0)] [])) _
  refine own_back (fun t k => XS.aload X524.here hx rfl (hb hby eunp_d56) rfl rfl k) ?_
  refine own_back (fun t k => XS.iload X524.here hx rfl (hb hby eunp_d58) rfl k) ?_
  show OwnGo p e below (T524.setTop (mkF m 60 #[.val (.int (0 : Int32)), .val (.ref t1), .val (.int (1 : Int32)), .val (.int (2 : Int32)), .val (.ref bq507), .val (.ref t1), .val (.int (2 : Int32)), .val (.int (1 : Int32)), .val (.int y0)] [(.int (1 : Int32)), (.ref t1)])) _
  obtain ⟨c531, A531, q531, S531, M531, H531, U531⟩ := id f528
  have ib532 : ¬ ((1 : Int32) < 0 ∨ c531.slots.size ≤ ((1 : Int32)).toNatClampNeg) := (inb_of S531 ⟨by decide, by decide⟩)
  refine own_back (fun t k => X524.baloadBytes hx (j := (1 : Int32)) (v := (.int y1)) (own_hat e524 A531.1) (State.isArrayOf_alike hZ.alike A531.2.1) A531.2.2 ib532 (H531.at ib532 rfl) (g := (mkF m 60 #[.val (.int (0 : Int32)), .val (.ref t1), .val (.int (1 : Int32)), .val (.int (2 : Int32)), .val (.ref bq507), .val (.ref t1), .val (.int (2 : Int32)), .val (.int (1 : Int32)), .val (.int y0)] [(.int (1 : Int32)), (.ref t1)])) rfl rfl (hb hby eunp_d60) t k) ?_
  refine own_back (fun t k => XS.istore X524.here hx rfl (hb hby eunp_d61) rfl (l' := #[.val (.int (0 : Int32)), .val (.ref t1), .val (.int (1 : Int32)), .val (.int (2 : Int32)), .val (.ref bq507), .val (.ref t1), .val (.int (2 : Int32)), .val (.int (1 : Int32)), .val (.int y1)]) rfl k) ?_
  refine own_back (fun t k => XS.iload X524.here hx rfl (hb hby eunp_d63) rfl k) ?_
  show OwnGo p e below (T524.setTop (mkF m 65 #[.val (.int (0 : Int32)), .val (.ref t1), .val (.int (1 : Int32)), .val (.int (2 : Int32)), .val (.ref bq507), .val (.ref t1), .val (.int (2 : Int32)), .val (.int (1 : Int32)), .val (.int y1)] [(.int y1)])) _
  refine own_back (fun t k => XS.ifYes X524.here hx rfl (pc0 := 65) (pc' := 109) rfl (hb hby eunp_d65) rfl (Jvm.Free.XT.i0_ge_t s1) (by decide) (by decide) k) ?_
  show OwnGo p e below (T524.setTop (mkF m 109 #[.val (.int (0 : Int32)), .val (.ref t1), .val (.int (1 : Int32)), .val (.int (2 : Int32)), .val (.ref bq507), .val (.ref t1), .val (.int (2 : Int32)), .val (.int (1 : Int32)), .val (.int y1)] [])) _
  refine own_back (fun t k => XS.aload X524.here hx rfl (hb hby eunp_d109) rfl rfl k) ?_
  refine own_back (fun t k => XS.iloadN X524.here hx rfl (hb hby eunp_d111) rfl k) ?_
  refine own_back (fun t k => XS.iinc X524.here hx rfl (hb hby eunp_d112) rfl (l' := #[.val (.int (0 : Int32)), .val (.ref t1), .val (.int (1 : Int32)), .val (.int (3 : Int32)), .val (.ref bq507), .val (.ref t1), .val (.int (2 : Int32)), .val (.int (1 : Int32)), .val (.int y1)]) rfl k) ?_
  show OwnGo p e below (T524.setTop (mkF m 115 #[.val (.int (0 : Int32)), .val (.ref t1), .val (.int (1 : Int32)), .val (.int (3 : Int32)), .val (.ref bq507), .val (.ref t1), .val (.int (2 : Int32)), .val (.int (1 : Int32)), .val (.int y1)] [(.int (2 : Int32)), (.ref bq507)])) _
  refine own_back (fun t k => XS.iload X524.here hx rfl (hb hby eunp_d115) rfl k) ?_
  obtain ⟨c533, A533, q533, S533, M533, H533, U533⟩ := id V529
  obtain ⟨T534, h534, X534, e534, W534, st534⟩ := stB X524 hx hZ e524 A533 (j := (2 : Int32)) (inb_of S533 ⟨by decide, by decide⟩) (g := (mkF m 117 #[.val (.int (0 : Int32)), .val (.ref t1), .val (.int (1 : Int32)), .val (.int (3 : Int32)), .val (.ref bq507), .val (.ref t1), .val (.int (2 : Int32)), .val (.int (1 : Int32)), .val (.int y1)] [(.int y1), (.int (2 : Int32)), (.ref bq507)])) rfl rfl (hb hby eunp_d117)
  have O535 := O525.wr W534 g507
  have KP536 := KP526.wr W534 (Or.inr z507)
  have Zs537 := Nat.le_trans Zs527 (Keep.of_wr W534).1
  have f538 := f528.other W534 (Nat.ne_of_lt (Nat.lt_of_lt_of_le V1.lt z507))
  have V539 : Arv Z h534 bq507 kq507 .byte (4 : Int32) [(.int ((192 : Int32) ||| ((y0 &&& (255 : Int32)) >>> ((6 : Int32) &&& 31))).toInt8.toInt32.toInt8.toInt32), (.int ((128 : Int32) ||| (y0 &&& (63 : Int32))).toInt8.toInt32.toInt8.toInt32), (.int y1.toInt8.toInt32), (.int 0)] (.int 0) := Arv.set A533 q533 S533 M533 H533 U533 (fits_nar_byte _) W534 2 rfl (Nat.le_of_ble_eq_true rfl)
  have N540 := Fr.snoc X534 N530 g507
  refine own_back st534 ?_
  refine own_back (fun t k => XS.iinc X534.here hx rfl (hb hby eunp_d118) rfl (l' := #[.val (.int (0 : Int32)), .val (.ref t1), .val (.int (1 : Int32)), .val (.int (3 : Int32)), .val (.ref bq507), .val (.ref t1), .val (.int (2 : Int32)), .val (.int (2 : Int32)), .val (.int y1)]) rfl k) ?_
  show OwnGo p e below (T534.setTop (mkF m 121 #[.val (.int (0 : Int32)), .val (.ref t1), .val (.int (1 : Int32)), .val (.int (3 : Int32)), .val (.ref bq507), .val (.ref t1), .val (.int (2 : Int32)), .val (.int (2 : Int32)), .val (.int y1)] [])) _
  refine own_back (fun t k => XS.goto X534.here hx rfl (pc0 := 121) (pc' := 49) rfl (hb hby eunp_d121) (by decide) (by decide) k) ?_
  refine own_back (fun t k => XS.iload X534.here hx rfl (hb hby eunp_d49) rfl k) ?_
  refine own_back (fun t k => XS.iload X534.here hx rfl (hb hby eunp_d51) rfl k) ?_
  show OwnGo p e below (T534.setTop (mkF m 53 #[.val (.int (0 : Int32)), .val (.ref t1), .val (.int (1 : Int32)), .val (.int (3 : Int32)), .val (.ref bq507), .val (.ref t1), .val (.int (2 : Int32)), .val (.int (2 : Int32)), .val (.int y1)] [(.int (2 : Int32)), (.int (2 : Int32))])) _
  refine own_back (fun t k => XS.icmpYes X534.here hx rfl (pc0 := 53) (pc' := 124) rfl (hb hby eunp_d53) rfl (Jvm.Free.XT.ii_ge_t (by decide)) (by decide) (by decide) k) ?_
  show OwnGo p e below (T534.setTop (mkF m 124 #[.val (.int (0 : Int32)), .val (.ref t1), .val (.int (1 : Int32)), .val (.int (3 : Int32)), .val (.ref bq507), .val (.ref t1), .val (.int (2 : Int32)), .val (.int (2 : Int32)), .val (.int y1)] [])) _
  refine own_back (fun t k => XS.iloadN X534.here hx rfl (hb hby eunp_d124) rfl k) ?_
  refine own_back (fun t k => XS.aload X534.here hx rfl (hb hby eunp_d125) rfl rfl k) ?_
  obtain ⟨c541, A541, q541, S541, M541, H541, U541⟩ := id V539
  refine own_back (fun t k => X534.arraylength hx (own_hat e534 A541.1) (State.isArrayOf_alike hZ.alike A541.2.1) (g := (mkF m 127 #[.val (.int (0 : Int32)), .val (.ref t1), .val (.int (1 : Int32)), .val (.int (3 : Int32)), .val (.ref bq507), .val (.ref t1), .val (.int (2 : Int32)), .val (.int (2 : Int32)), .val (.int y1)] [(.ref bq507), (.int (3 : Int32))])) rfl rfl (hb hby eunp_d127) t k) ?_
  rw [len_of S541 M541]
  show OwnGo p e below (T534.setTop (mkF m 128 #[.val (.int (0 : Int32)), .val (.ref t1), .val (.int (1 : Int32)), .val (.int (3 : Int32)), .val (.ref bq507), .val (.ref t1), .val (.int (2 : Int32)), .val (.int (2 : Int32)), .val (.int y1)] [(.int (4 : Int32)), (.int (3 : Int32))])) _
  refine own_back (fun t k => XS.icmpYes X534.here hx rfl (pc0 := 128) (pc' := 134) rfl (hb hby eunp_d128) rfl (Jvm.Free.XT.ii_ne_t (by decide)) (by decide) (by decide) k) ?_
  show OwnGo p e below (T534.setTop (mkF m 134 #[.val (.int (0 : Int32)), .val (.ref t1), .val (.int (1 : Int32)), .val (.int (3 : Int32)), .val (.ref bq507), .val (.ref t1), .val (.int (2 : Int32)), .val (.int (2 : Int32)), .val (.int y1)] [])) _
  refine own_back (fun t k => XS.aload X534.here hx rfl (hb hby eunp_d134) rfl rfl k) ?_
  refine own_back (fun t k => XS.iloadN X534.here hx rfl (hb hby eunp_d136) rfl k) ?_
  obtain ⟨_, _, ⟨T542, L542, k542, n542⟩, -, X542, ⟨Lc542, hQ542, l542, y542, z542⟩, st542⟩ := Jvm.LawKit.callS X534 hx (y := (⟨"java/util/Arrays", "copyOf", "([BI)[B"⟩ : MethodName)) hown (mvT hZ (hw _ (List.mem_of_getElem? (i := 135) rfl))) (mvT hZ (hw _ (List.mem_of_getElem? (i := 136) rfl))) (mvT hZ (hw _ (List.mem_of_getElem? (i := 137) rfl))) (mvT hZ (hw _ (List.mem_of_getElem? (i := 138) rfl))) (by decide) (own_backN (W := 0) (rm_cof l Z a0 hw [] bq507 kq507 (((192 : Int32) ||| ((y0 &&& (255 : Int32)) >>> ((6 : Int32) &&& 31))).toInt8.toInt32.toInt8.toInt32) (((128 : Int32) ||| (y0 &&& (63 : Int32))).toInt8.toInt32.toInt8.toInt32) (y1.toInt8.toInt32) (0) h534 n0 Zs537 O535 V539) hZ (hw _ (List.mem_of_getElem? (i := 138) rfl)) (hw _ (List.mem_of_getElem? (i := 137) rfl)) (by decide) (by decide)) (g := (mkF m 137 #[.val (.int (0 : Int32)), .val (.ref t1), .val (.int (1 : Int32)), .val (.int (3 : Int32)), .val (.ref bq507), .val (.ref t1), .val (.int (2 : Int32)), .val (.int (2 : Int32)), .val (.int y1)] [(.int (3 : Int32)), (.ref bq507)])) rfl (by rw [hml]; rfl) (argsL := [(.ref bq507), (.int (3 : Int32))]) (rest := []) (lenOf eunp_pd2 rfl) rfl (by show 2 * 0 + _ ≤ _; exact Nat.le_of_eq rfl) (hb hby eunp_d137) (fun _ _ => ⟨rfl, e534, Nat.le_of_ble_eq_true rfl, Nat.le_of_ble_eq_true rfl⟩)
  dsimp only [Pt.U, Pt.locs, Pt.cells, Pt.slots] at X542 l542 y542 z542 st542 hQ542
  subst l542 y542 z542
  obtain ⟨bq542, rfl, N542q, E542⟩ := hQ542
  refine own_back st542 ?_
  have N542 := Fr.app N540 N542q
  have O543 := O535.ext E542
  have KP544 := KP536.ext E542
  have Zs545 := Nat.le_trans Zs537 E542.1
  have f546 := f538.ext E542
  have f547 := V539.ext E542
  show OwnGo p e below (T542.setTop (mkF m 140 #[.val (.int (0 : Int32)), .val (.ref t1), .val (.int (1 : Int32)), .val (.int (3 : Int32)), .val (.ref bq507), .val (.ref t1), .val (.int (2 : Int32)), .val (.int (2 : Int32)), .val (.int y1)] [(.ref bq542)])) _
  refine own_retA X542 hx Bd.notSynchronized Bd.returns rfl rfl (hb hby eunp_d140) rfl (Nat.le_of_ble_eq_true rfl) (Nat.le_of_ble_eq_true rfl) ?_
  exact ⟨_, rfl, N542, own_ext KP544⟩
theorem encnp_d0 : decode jdk_42_method_18_code 0 = .ok (.aload_n 0, 1) := by decide +kernel
theorem encnp_d1 : decode jdk_42_method_18_code 1 = .ok (.getstatic 86, 3) := by decide +kernel
theorem encnp_d4 : decode jdk_42_method_18_code 4 = .ok (.if_acmp .ne 10, 3) := by decide +kernel
theorem encnp_d7 : decode jdk_42_method_18_code 7 = .ok (.iload_n 1, 1) := by decide +kernel
theorem encnp_d8 : decode jdk_42_method_18_code 8 = .ok (.aload_n 2, 1) := by decide +kernel
theorem encnp_d9 : decode jdk_42_method_18_code 9 = .ok (.iconst 1, 1) := by decide +kernel
theorem encnp_d10 : decode jdk_42_method_18_code 10 = .ok (.invokestatic 252, 3) := by decide +kernel
theorem encnp_d13 : decode jdk_42_method_18_code 13 = .ok (.areturn, 1) := by decide +kernel
theorem encnp_pn : plainName "java/lang/String" = true := by first | (simp [plainName, overriddenIn]; done) | decide +kernel
theorem encnp_pd0 : parseMethodDescriptor "(B[BZ)[B" = some ⟨[.byte, (.array .byte), .boolean], some (.array .byte)⟩ := by decide +kernel
theorem encnp_ef (m : MethodId) (x0 : Addr) (x1 : Int32) (x2 : Addr) : entryFrame m #[(.ref x0), (.int x1), (.ref x2)] 3 = mkF m 0 #[.val (.ref x0), .val (.int x1), .val (.ref x2)] [] := by first | (simp [entryFrame, mkF, argsToLocals, Value.category]; done) | rfl
set_option maxRecDepth 65536 in
set_option maxHeartbeats 40000000 in
theorem rm_encnp (l : Launch) (Z : State) (a0 : Array Value) (hw : ∀ d ∈ tables_1, d.before a0 Z = true) (ws : List Jvm.Cond) (t1 : Addr) (k1 : ClassId) (y0 : Int32) (y1 : Int32) (w8 : Addr) (h0 : Heap) (n0 : Nat) (Z0 : n0 ≤ h0.size) (OL : Old Z n0 h0) (V1 : Arv Z h0 t1 k1 .byte (2 : Int32) [.int y0, .int y1] (.int 0)) (X1 : Exa Z h0 t1 "[B") (s0 : y0 < 0) (s1 : ¬ y1 < 0) (SI : Sta Z Z.heap "sun/nio/cs/UTF_8" "INSTANCE" "Lsun/nio/cs/UTF_8;" (.ref w8)) :
    MetFree l (⟨"java/lang/String", "encode", "(Ljava/nio/charset/Charset;B[B)[B"⟩ : MethodName) (head1 (Jvm.Cond.code (⟨"java/lang/String", "encode", "(Ljava/nio/charset/Charset;B[B)[B"⟩ : MethodName) jdk_42_method_18_code 3 (some (.array .byte)) :: ws) ({ frames := 3, cells := 2, slots := 8, locals := 115 } : Room)) (fun a U => a = #[(.ref w8), (.int (0 : Int32)), (.ref t1)] ∧ Z.Warmed39 U.vm ∧ U.heap = h0) (fun _ _ _ _ _ => True) (fun _ U o U' => OwnEnd U (fun v h L => ∃ b, v = some (.ref b) ∧ Fr n0 L ∧ Ext h0 h) ({ frames := 3, cells := 2, slots := 8, locals := 115 } : Room).cells ({ frames := 3, cells := 2, slots := 8, locals := 115 } : Room).slots o U') := by
  refine MetFree.of_bodySF (plainFor_of_name encnp_pn) hisR ?_
  intro p e s m args below meth c s₁ Bd hml0 hP hK
  obtain ⟨rfl, hZ, hh⟩ := hP
  have hx := Bd.exec
  have hby := Bd.bytes
  have hml : c.maxLocals = 3 := hml0
  have hown : s.vm.findClass "java/lang/String" = some m.cls := findClass_of_methodNamed Bd.named
  have hnm := (name_of_methodNamed Bd.named Bd.method).1
  have X0 : Stand p l e ({ frames := 3, cells := 2, slots := 8, locals := 115 } : Room) s m #[(.ref w8), (.int (0 : Int32)), (.ref t1)] below meth c s₁ [] 0 0 := Stand.of_body Bd
  have e0 : s₁.heap = h0 := by rw [← hh, Bd.state]; rfl
  have N0 := Fr.nil n0
  have KP0 := Keep.refl h0 []
  refine own_go (Q := (OwnEnd s (fun v h L => ∃ b, v = some (.ref b) ∧ Fr n0 L ∧ Ext h0 h) ({ frames := 3, cells := 2, slots := 8, locals := 115 } : Room).cells ({ frames := 3, cells := 2, slots := 8, locals := 115 } : Room).slots)) ?_
  refine own_back (fun t k => castTop (encnp_ef m w8 (0 : Int32) t1) k) ?_
  show OwnGo p e below (s₁.setTop (mkF m 0 #[.val (.ref w8), .val (.int (0 : Int32)), .val (.ref t1)] [])) _
  refine own_back (fun t k => XS.aloadN X0.here hx rfl (hb hby encnp_d0) rfl rfl k) ?_
  show OwnGo p e below (s₁.setTop (mkF m 1 #[.val (.ref w8), .val (.int (0 : Int32)), .val (.ref t1)] [(.ref w8)])) _
  obtain ⟨T548, X548, e548, st548⟩ := getS2 X0 hx hZ hown (host := "") (Or.inl (hw _ (List.mem_of_getElem? (i := 63) rfl))) Via.refl e0 (SI.ext OL.2) (g := (mkF m 1 #[.val (.ref w8), .val (.int (0 : Int32)), .val (.ref t1)] [(.ref w8)])) rfl (hb hby encnp_d1)
  refine own_back st548 ?_
  show OwnGo p e below (T548.setTop (mkF m 4 #[.val (.ref w8), .val (.int (0 : Int32)), .val (.ref t1)] [(.ref w8), (.ref w8)])) _
  refine own_back (fun t k => Jvm.RoadKit.acmp (g := (mkF m 4 #[.val (.ref w8), .val (.int (0 : Int32)), .val (.ref t1)] [(.ref w8), (.ref w8)])) X548 hx rfl rfl rfl (pc0 := 4) (pc' := 7) (same := true) rfl (hb hby encnp_d4) rfl (decide_eq_true rfl) (by decide) (by decide) k) ?_
  show OwnGo p e below (T548.setTop (mkF m 7 #[.val (.ref w8), .val (.int (0 : Int32)), .val (.ref t1)] [])) _
  refine own_back (fun t k => XS.iloadN X548.here hx rfl (hb hby encnp_d7) rfl k) ?_
  show OwnGo p e below (T548.setTop (mkF m 8 #[.val (.ref w8), .val (.int (0 : Int32)), .val (.ref t1)] [(.int (0 : Int32))])) _
  refine own_back (fun t k => XS.aloadN X548.here hx rfl (hb hby encnp_d8) rfl rfl k) ?_
  show OwnGo p e below (T548.setTop (mkF m 9 #[.val (.ref w8), .val (.int (0 : Int32)), .val (.ref t1)] [(.ref t1), (.int (0 : Int32))])) _
  refine own_back (fun t k => XS.iconst X548.here hx rfl (hb hby encnp_d9) k) ?_
  show OwnGo p e below (T548.setTop (mkF m 10 #[.val (.ref w8), .val (.int (0 : Int32)), .val (.ref t1)] [(.int (1 : Int32)), (.ref t1), (.int (0 : Int32))])) _
  obtain ⟨_, _, ⟨T549, L549, k549, n549⟩, -, X549, ⟨Lc549, hQ549, l549, y549, z549⟩, st549⟩ := Jvm.LawKit.callS X548 hx (y := (⟨"java/lang/String", "encodeUTF8", "(B[BZ)[B"⟩ : MethodName)) hown (mvT hZ (hw _ (List.mem_of_getElem? (i := 65) rfl))) (mvT hZ (hw _ (List.mem_of_getElem? (i := 66) rfl))) (mvT hZ (hw _ (List.mem_of_getElem? (i := 6) rfl))) (mvT hZ (hw _ (List.mem_of_getElem? (i := 67) rfl))) (by decide) (own_backN (W := 0) (rm_eunp l Z a0 hw [] t1 k1 y0 y1 h0 n0 Z0 OL V1 X1 s0 s1) hZ (hw _ (List.mem_of_getElem? (i := 67) rfl)) (hw _ (List.mem_of_getElem? (i := 6) rfl)) (by decide) (by decide)) (g := (mkF m 10 #[.val (.ref w8), .val (.int (0 : Int32)), .val (.ref t1)] [(.int (1 : Int32)), (.ref t1), (.int (0 : Int32))])) rfl (by rw [hml]; rfl) (argsL := [(.int (0 : Int32)), (.ref t1), (.int (1 : Int32))]) (rest := []) (lenOf encnp_pd0 rfl) rfl (by show 2 * 0 + _ ≤ _; exact Nat.le_of_eq rfl) (hb hby encnp_d10) (fun _ _ => ⟨rfl, e548, Nat.le_of_ble_eq_true rfl, Nat.le_of_ble_eq_true rfl⟩)
  dsimp only [Pt.U, Pt.locs, Pt.cells, Pt.slots] at X549 l549 y549 z549 st549 hQ549
  subst l549 y549 z549
  obtain ⟨bq549, rfl, N549q, E549⟩ := hQ549
  refine own_back st549 ?_
  have N549 := Fr.app N0 N549q
  have O550 := OL.ext E549
  have KP551 := KP0.ext E549
  have Zs552 := Nat.le_trans Z0 E549.1
  have f553 := V1.ext E549
  show OwnGo p e below (T549.setTop (mkF m 13 #[.val (.ref w8), .val (.int (0 : Int32)), .val (.ref t1)] [(.ref bq549)])) _
  refine own_retA X549 hx Bd.notSynchronized Bd.returns rfl rfl (hb hby encnp_d13) rfl (Nat.le_of_ble_eq_true rfl) (Nat.le_of_ble_eq_true rfl) ?_
  exact ⟨_, rfl, N549, own_ext KP551⟩
theorem cppn_d0 : decode jdk_123_method_3_code 0 = .ok (.iload_n 1, 1) := by decide +kernel
theorem cppn_d1 : decode jdk_123_method_3_code 1 = .ok (.iload_n 2, 1) := by decide +kernel
theorem cppn_d2 : decode jdk_123_method_3_code 2 = .ok (.iadd, 1) := by decide +kernel
theorem cppn_d3 : decode jdk_123_method_3_code 3 = .ok (.istore_n 3, 1) := by decide +kernel
theorem cppn_d4 : decode jdk_123_method_3_code 4 = .ok (.iload_n 1, 1) := by decide +kernel
theorem cppn_d5 : decode jdk_123_method_3_code 5 = .ok (.istore 4, 2) := by decide +kernel
theorem cppn_d7 : decode jdk_123_method_3_code 7 = .ok (.iload 4, 2) := by decide +kernel
theorem cppn_d9 : decode jdk_123_method_3_code 9 = .ok (.iload_n 3, 1) := by decide +kernel
theorem cppn_d10 : decode jdk_123_method_3_code 10 = .ok (.if_icmp .ge 21, 3) := by decide +kernel
theorem cppn_d13 : decode jdk_123_method_3_code 13 = .ok (.aload_n 0, 1) := by decide +kernel
theorem cppn_d14 : decode jdk_123_method_3_code 14 = .ok (.iload 4, 2) := by decide +kernel
theorem cppn_d16 : decode jdk_123_method_3_code 16 = .ok (.baload, 1) := by decide +kernel
theorem cppn_d17 : decode jdk_123_method_3_code 17 = .ok (.ifCond .ge 8, 3) := by decide +kernel
theorem cppn_d20 : decode jdk_123_method_3_code 20 = .ok (.iload 4, 2) := by decide +kernel
theorem cppn_d22 : decode jdk_123_method_3_code 22 = .ok (.iload_n 1, 1) := by decide +kernel
theorem cppn_d23 : decode jdk_123_method_3_code 23 = .ok (.isub, 1) := by decide +kernel
theorem cppn_d24 : decode jdk_123_method_3_code 24 = .ok (.ireturn, 1) := by decide +kernel
theorem cppn_d25 : decode jdk_123_method_3_code 25 = .ok (.iinc 4 1, 3) := by decide +kernel
theorem cppn_d28 : decode jdk_123_method_3_code 28 = .ok (.goto (-21), 3) := by decide +kernel
theorem cppn_pn : plainName "java/lang/StringCoding" = true := by first | (simp [plainName, overriddenIn]; done) | decide +kernel
theorem cppn_ef (m : MethodId) (x0 : Addr) (x1 : Int32) (x2 : Int32) : entryFrame m #[(.ref x0), (.int x1), (.int x2)] 5 = mkF m 0 #[.val (.ref x0), .val (.int x1), .val (.int x2), .unset, .unset] [] := by first | (simp [entryFrame, mkF, argsToLocals, Value.category]; done) | rfl
set_option maxRecDepth 65536 in
set_option maxHeartbeats 40000000 in
theorem rm_cppn (l : Launch) (Z : State) (a0 : Array Value) (hw : ∀ d ∈ tables_1, d.before a0 Z = true) (ws : List Jvm.Cond) (t1 : Addr) (k1 : ClassId) (y0 : Int32) (y1 : Int32) (h0 : Heap) (n0 : Nat) (Z0 : n0 ≤ h0.size) (V1 : Arv Z h0 t1 k1 .byte (2 : Int32) [.int y0, .int y1] (.int 0)) (s0 : ¬ y0 < 0) (s1 : y1 < 0) :
    MetFree l (⟨"java/lang/StringCoding", "countPositives", "([BII)I"⟩ : MethodName) (head1 (Jvm.Cond.code (⟨"java/lang/StringCoding", "countPositives", "([BII)I"⟩ : MethodName) jdk_123_method_3_code 5 (some .int) :: ws) ({ frames := 0, cells := 0, slots := 0, locals := 0 } : Room)) (fun a U => a = #[(.ref t1), (.int (0 : Int32)), (.int (2 : Int32))] ∧ Z.Warmed39 U.vm ∧ U.heap = h0) (fun _ _ _ _ _ => True) (fun _ U o U' => OwnEnd U (fun v h L => v = some (.int (1 : Int32)) ∧ Fr n0 L ∧ h = h0) ({ frames := 0, cells := 0, slots := 0, locals := 0 } : Room).cells ({ frames := 0, cells := 0, slots := 0, locals := 0 } : Room).slots o U') := by
  refine MetFree.of_bodySF (plainFor_of_name cppn_pn) hisR ?_
  intro p e s m args below meth c s₁ Bd hml0 hP hK
  obtain ⟨rfl, hZ, hh⟩ := hP
  have hx := Bd.exec
  have hby := Bd.bytes
  have hml : c.maxLocals = 5 := hml0
  have hown : s.vm.findClass "java/lang/StringCoding" = some m.cls := findClass_of_methodNamed Bd.named
  have hnm := (name_of_methodNamed Bd.named Bd.method).1
  have X0 : Stand p l e ({ frames := 0, cells := 0, slots := 0, locals := 0 } : Room) s m #[(.ref t1), (.int (0 : Int32)), (.int (2 : Int32))] below meth c s₁ [] 0 0 := Stand.of_body Bd
  have e0 : s₁.heap = h0 := by rw [← hh, Bd.state]; rfl
  have N0 := Fr.nil n0
  have KP0 := Keep.refl h0 []
  refine own_go (Q := (OwnEnd s (fun v h L => v = some (.int (1 : Int32)) ∧ Fr n0 L ∧ h = h0) ({ frames := 0, cells := 0, slots := 0, locals := 0 } : Room).cells ({ frames := 0, cells := 0, slots := 0, locals := 0 } : Room).slots)) ?_
  refine own_back (fun t k => castTop (cppn_ef m t1 (0 : Int32) (2 : Int32)) k) ?_
  show OwnGo p e below (s₁.setTop (mkF m 0 #[.val (.ref t1), .val (.int (0 : Int32)), .val (.int (2 : Int32)), .unset, .unset] [])) _
  refine own_back (fun t k => XS.iloadN X0.here hx rfl (hb hby cppn_d0) rfl k) ?_
  show OwnGo p e below (s₁.setTop (mkF m 1 #[.val (.ref t1), .val (.int (0 : Int32)), .val (.int (2 : Int32)), .unset, .unset] [(.int (0 : Int32))])) _
  refine own_back (fun t k => XS.iloadN X0.here hx rfl (hb hby cppn_d1) rfl k) ?_
  show OwnGo p e below (s₁.setTop (mkF m 2 #[.val (.ref t1), .val (.int (0 : Int32)), .val (.int (2 : Int32)), .unset, .unset] [(.int (2 : Int32)), (.int (0 : Int32))])) _
  refine own_back (fun t k => XS.iadd X0.here hx rfl (hb hby cppn_d2) rfl k) ?_
  show OwnGo p e below (s₁.setTop (mkF m 3 #[.val (.ref t1), .val (.int (0 : Int32)), .val (.int (2 : Int32)), .unset, .unset] [(.int (2 : Int32))])) _
  refine own_back (fun t k => XS.istoreN X0.here hx rfl (hb hby cppn_d3) rfl (l' := #[.val (.ref t1), .val (.int (0 : Int32)), .val (.int (2 : Int32)), .val (.int (2 : Int32)), .unset]) rfl k) ?_
  show OwnGo p e below (s₁.setTop (mkF m 4 #[.val (.ref t1), .val (.int (0 : Int32)), .val (.int (2 : Int32)), .val (.int (2 : Int32)), .unset] [])) _
  refine own_back (fun t k => XS.iloadN X0.here hx rfl (hb hby cppn_d4) rfl k) ?_
  show OwnGo p e below (s₁.setTop (mkF m 5 #[.val (.ref t1), .val (.int (0 : Int32)), .val (.int (2 : Int32)), .val (.int (2 : Int32)), .unset] [(.int (0 : Int32))])) _
  refine own_back (fun t k => XS.istore X0.here hx rfl (hb hby cppn_d5) rfl (l' := #[.val (.ref t1), .val (.int (0 : Int32)), .val (.int (2 : Int32)), .val (.int (2 : Int32)), .val (.int (0 : Int32))]) rfl k) ?_
  show OwnGo p e below (s₁.setTop (mkF m 7 #[.val (.ref t1), .val (.int (0 : Int32)), .val (.int (2 : Int32)), .val (.int (2 : Int32)), .val (.int (0 : Int32))] [])) _
  refine own_back (fun t k => XS.iload X0.here hx rfl (hb hby cppn_d7) rfl k) ?_
  show OwnGo p e below (s₁.setTop (mkF m 9 #[.val (.ref t1), .val (.int (0 : Int32)), .val (.int (2 : Int32)), .val (.int (2 : Int32)), .val (.int (0 : Int32))] [(.int (0 : Int32))])) _
  refine own_back (fun t k => XS.iloadN X0.here hx rfl (hb hby cppn_d9) rfl k) ?_
  show OwnGo p e below (s₁.setTop (mkF m 10 #[.val (.ref t1), .val (.int (0 : Int32)), .val (.int (2 : Int32)), .val (.int (2 : Int32)), .val (.int (0 : Int32))] [(.int (2 : Int32)), (.int (0 : Int32))])) _
  refine own_back (fun t k => XS.icmpNo X0.here hx rfl (hb hby cppn_d10) rfl (Jvm.Free.XT.ii_ge_f (by decide)) k) ?_
  show OwnGo p e below (s₁.setTop (mkF m 13 #[.val (.ref t1), .val (.int (0 : Int32)), .val (.int (2 : Int32)), .val (.int (2 : Int32)), .val (.int (0 : Int32))] [])) _
  refine own_back (fun t k => XS.aloadN X0.here hx rfl (hb hby cppn_d13) rfl rfl k) ?_
  show OwnGo p e below (s₁.setTop (mkF m 14 #[.val (.ref t1), .val (.int (0 : Int32)), .val (.int (2 : Int32)), .val (.int (2 : Int32)), .val (.int (0 : Int32))] [(.ref t1)])) _
  refine own_back (fun t k => XS.iload X0.here hx rfl (hb hby cppn_d14) rfl k) ?_
  show OwnGo p e below (s₁.setTop (mkF m 16 #[.val (.ref t1), .val (.int (0 : Int32)), .val (.int (2 : Int32)), .val (.int (2 : Int32)), .val (.int (0 : Int32))] [(.int (0 : Int32)), (.ref t1)])) _
  obtain ⟨c554, A554, q554, S554, M554, H554, U554⟩ := id V1
  have ib555 : ¬ ((0 : Int32) < 0 ∨ c554.slots.size ≤ ((0 : Int32)).toNatClampNeg) := (inb_of S554 ⟨by decide, by decide⟩)
  refine own_back (fun t k => X0.baloadBytes hx (j := (0 : Int32)) (v := (.int y0)) (own_hat e0 A554.1) (State.isArrayOf_alike hZ.alike A554.2.1) A554.2.2 ib555 (H554.at ib555 rfl) (g := (mkF m 16 #[.val (.ref t1), .val (.int (0 : Int32)), .val (.int (2 : Int32)), .val (.int (2 : Int32)), .val (.int (0 : Int32))] [(.int (0 : Int32)), (.ref t1)])) rfl rfl (hb hby cppn_d16) t k) ?_
  show OwnGo p e below (s₁.setTop (mkF m 17 #[.val (.ref t1), .val (.int (0 : Int32)), .val (.int (2 : Int32)), .val (.int (2 : Int32)), .val (.int (0 : Int32))] [(.int y0)])) _
  refine own_back (fun t k => XS.ifYes X0.here hx rfl (pc0 := 17) (pc' := 25) rfl (hb hby cppn_d17) rfl (Jvm.Free.XT.i0_ge_t s0) (by decide) (by decide) k) ?_
  show OwnGo p e below (s₁.setTop (mkF m 25 #[.val (.ref t1), .val (.int (0 : Int32)), .val (.int (2 : Int32)), .val (.int (2 : Int32)), .val (.int (0 : Int32))] [])) _
  refine own_back (fun t k => XS.iinc X0.here hx rfl (hb hby cppn_d25) rfl (l' := #[.val (.ref t1), .val (.int (0 : Int32)), .val (.int (2 : Int32)), .val (.int (2 : Int32)), .val (.int (1 : Int32))]) rfl k) ?_
  show OwnGo p e below (s₁.setTop (mkF m 28 #[.val (.ref t1), .val (.int (0 : Int32)), .val (.int (2 : Int32)), .val (.int (2 : Int32)), .val (.int (1 : Int32))] [])) _
  refine own_back (fun t k => XS.goto X0.here hx rfl (pc0 := 28) (pc' := 7) rfl (hb hby cppn_d28) (by decide) (by decide) k) ?_
  show OwnGo p e below (s₁.setTop (mkF m 7 #[.val (.ref t1), .val (.int (0 : Int32)), .val (.int (2 : Int32)), .val (.int (2 : Int32)), .val (.int (1 : Int32))] [])) _
  refine own_back (fun t k => XS.iload X0.here hx rfl (hb hby cppn_d7) rfl k) ?_
  show OwnGo p e below (s₁.setTop (mkF m 9 #[.val (.ref t1), .val (.int (0 : Int32)), .val (.int (2 : Int32)), .val (.int (2 : Int32)), .val (.int (1 : Int32))] [(.int (1 : Int32))])) _
  refine own_back (fun t k => XS.iloadN X0.here hx rfl (hb hby cppn_d9) rfl k) ?_
  show OwnGo p e below (s₁.setTop (mkF m 10 #[.val (.ref t1), .val (.int (0 : Int32)), .val (.int (2 : Int32)), .val (.int (2 : Int32)), .val (.int (1 : Int32))] [(.int (2 : Int32)), (.int (1 : Int32))])) _
  refine own_back (fun t k => XS.icmpNo X0.here hx rfl (hb hby cppn_d10) rfl (Jvm.Free.XT.ii_ge_f (by decide)) k) ?_
  show OwnGo p e below (s₁.setTop (mkF m 13 #[.val (.ref t1), .val (.int (0 : Int32)), .val (.int (2 : Int32)), .val (.int (2 : Int32)), .val (.int (1 : Int32))] [])) _
  refine own_back (fun t k => XS.aloadN X0.here hx rfl (hb hby cppn_d13) rfl rfl k) ?_
  show OwnGo p e below (s₁.setTop (mkF m 14 #[.val (.ref t1), .val (.int (0 : Int32)), .val (.int (2 : Int32)), .val (.int (2 : Int32)), .val (.int (1 : Int32))] [(.ref t1)])) _
  refine own_back (fun t k => XS.iload X0.here hx rfl (hb hby cppn_d14) rfl k) ?_
  show OwnGo p e below (s₁.setTop (mkF m 16 #[.val (.ref t1), .val (.int (0 : Int32)), .val (.int (2 : Int32)), .val (.int (2 : Int32)), .val (.int (1 : Int32))] [(.int (1 : Int32)), (.ref t1)])) _
  obtain ⟨c556, A556, q556, S556, M556, H556, U556⟩ := id V1
  have ib557 : ¬ ((1 : Int32) < 0 ∨ c556.slots.size ≤ ((1 : Int32)).toNatClampNeg) := (inb_of S556 ⟨by decide, by decide⟩)
  refine own_back (fun t k => X0.baloadBytes hx (j := (1 : Int32)) (v := (.int y1)) (own_hat e0 A556.1) (State.isArrayOf_alike hZ.alike A556.2.1) A556.2.2 ib557 (H556.at ib557 rfl) (g := (mkF m 16 #[.val (.ref t1), .val (.int (0 : Int32)), .val (.int (2 : Int32)), .val (.int (2 : Int32)), .val (.int (1 : Int32))] [(.int (1 : Int32)), (.ref t1)])) rfl rfl (hb hby cppn_d16) t k) ?_
  show OwnGo p e below (s₁.setTop (mkF m 17 #[.val (.ref t1), .val (.int (0 : Int32)), .val (.int (2 : Int32)), .val (.int (2 : Int32)), .val (.int (1 : Int32))] [(.int y1)])) _
  refine own_back (fun t k => XS.ifNo X0.here hx rfl (hb hby cppn_d17) rfl (Jvm.Free.XT.i0_ge_f s1) k) ?_
  show OwnGo p e below (s₁.setTop (mkF m 20 #[.val (.ref t1), .val (.int (0 : Int32)), .val (.int (2 : Int32)), .val (.int (2 : Int32)), .val (.int (1 : Int32))] [])) _
  refine own_back (fun t k => XS.iload X0.here hx rfl (hb hby cppn_d20) rfl k) ?_
  show OwnGo p e below (s₁.setTop (mkF m 22 #[.val (.ref t1), .val (.int (0 : Int32)), .val (.int (2 : Int32)), .val (.int (2 : Int32)), .val (.int (1 : Int32))] [(.int (1 : Int32))])) _
  refine own_back (fun t k => XS.iloadN X0.here hx rfl (hb hby cppn_d22) rfl k) ?_
  show OwnGo p e below (s₁.setTop (mkF m 23 #[.val (.ref t1), .val (.int (0 : Int32)), .val (.int (2 : Int32)), .val (.int (2 : Int32)), .val (.int (1 : Int32))] [(.int (0 : Int32)), (.int (1 : Int32))])) _
  refine own_back (fun t k => XS.isub X0.here hx rfl (hb hby cppn_d23) rfl k) ?_
  show OwnGo p e below (s₁.setTop (mkF m 24 #[.val (.ref t1), .val (.int (0 : Int32)), .val (.int (2 : Int32)), .val (.int (2 : Int32)), .val (.int (1 : Int32))] [(.int (1 : Int32))])) _
  refine own_retI X0 hx Bd.notSynchronized Bd.returns (hb hby cppn_d24) e0 (Nat.le_of_ble_eq_true rfl) (Nat.le_of_ble_eq_true rfl) ?_
  exact ⟨rfl, N0, rfl⟩
theorem hnpn_d0 : decode jdk_123_method_2_code 0 = .ok (.aload_n 0, 1) := by decide +kernel
theorem hnpn_d1 : decode jdk_123_method_2_code 1 = .ok (.iload_n 1, 1) := by decide +kernel
theorem hnpn_d2 : decode jdk_123_method_2_code 2 = .ok (.iload_n 2, 1) := by decide +kernel
theorem hnpn_d3 : decode jdk_123_method_2_code 3 = .ok (.invokestatic 7, 3) := by decide +kernel
theorem hnpn_d6 : decode jdk_123_method_2_code 6 = .ok (.iload_n 2, 1) := by decide +kernel
theorem hnpn_d7 : decode jdk_123_method_2_code 7 = .ok (.if_icmp .eq 7, 3) := by decide +kernel
theorem hnpn_d10 : decode jdk_123_method_2_code 10 = .ok (.iconst 1, 1) := by decide +kernel
theorem hnpn_d11 : decode jdk_123_method_2_code 11 = .ok (.goto 4, 3) := by decide +kernel
theorem hnpn_d15 : decode jdk_123_method_2_code 15 = .ok (.ireturn, 1) := by decide +kernel
theorem hnpn_pn : plainName "java/lang/StringCoding" = true := by first | (simp [plainName, overriddenIn]; done) | decide +kernel
theorem hnpn_pd0 : parseMethodDescriptor "([BII)I" = some ⟨[(.array .byte), .int, .int], some .int⟩ := by decide +kernel
theorem hnpn_ef (m : MethodId) (x0 : Addr) (x1 : Int32) (x2 : Int32) : entryFrame m #[(.ref x0), (.int x1), (.int x2)] 3 = mkF m 0 #[.val (.ref x0), .val (.int x1), .val (.int x2)] [] := by first | (simp [entryFrame, mkF, argsToLocals, Value.category]; done) | rfl
set_option maxRecDepth 65536 in
set_option maxHeartbeats 40000000 in
theorem rm_hnpn (l : Launch) (Z : State) (a0 : Array Value) (hw : ∀ d ∈ tables_1, d.before a0 Z = true) (ws : List Jvm.Cond) (t1 : Addr) (k1 : ClassId) (y0 : Int32) (y1 : Int32) (h0 : Heap) (n0 : Nat) (Z0 : n0 ≤ h0.size) (V1 : Arv Z h0 t1 k1 .byte (2 : Int32) [.int y0, .int y1] (.int 0)) (s0 : ¬ y0 < 0) (s1 : y1 < 0) :
    MetFree l (⟨"java/lang/StringCoding", "hasNegatives", "([BII)Z"⟩ : MethodName) (head1 (Jvm.Cond.code (⟨"java/lang/StringCoding", "hasNegatives", "([BII)Z"⟩ : MethodName) jdk_123_method_2_code 3 (some .boolean) :: ws) ({ frames := 1, cells := 0, slots := 0, locals := 20 } : Room)) (fun a U => a = #[(.ref t1), (.int (0 : Int32)), (.int (2 : Int32))] ∧ Z.Warmed39 U.vm ∧ U.heap = h0) (fun _ _ _ _ _ => True) (fun _ U o U' => OwnEnd U (fun v h L => v = some (.int (1 : Int32)) ∧ Fr n0 L ∧ h = h0) ({ frames := 1, cells := 0, slots := 0, locals := 20 } : Room).cells ({ frames := 1, cells := 0, slots := 0, locals := 20 } : Room).slots o U') := by
  refine MetFree.of_bodySF (plainFor_of_name hnpn_pn) hisR ?_
  intro p e s m args below meth c s₁ Bd hml0 hP hK
  obtain ⟨rfl, hZ, hh⟩ := hP
  have hx := Bd.exec
  have hby := Bd.bytes
  have hml : c.maxLocals = 3 := hml0
  have hown : s.vm.findClass "java/lang/StringCoding" = some m.cls := findClass_of_methodNamed Bd.named
  have hnm := (name_of_methodNamed Bd.named Bd.method).1
  have X0 : Stand p l e ({ frames := 1, cells := 0, slots := 0, locals := 20 } : Room) s m #[(.ref t1), (.int (0 : Int32)), (.int (2 : Int32))] below meth c s₁ [] 0 0 := Stand.of_body Bd
  have e0 : s₁.heap = h0 := by rw [← hh, Bd.state]; rfl
  have N0 := Fr.nil n0
  have KP0 := Keep.refl h0 []
  refine own_go (Q := (OwnEnd s (fun v h L => v = some (.int (1 : Int32)) ∧ Fr n0 L ∧ h = h0) ({ frames := 1, cells := 0, slots := 0, locals := 20 } : Room).cells ({ frames := 1, cells := 0, slots := 0, locals := 20 } : Room).slots)) ?_
  refine own_back (fun t k => castTop (hnpn_ef m t1 (0 : Int32) (2 : Int32)) k) ?_
  show OwnGo p e below (s₁.setTop (mkF m 0 #[.val (.ref t1), .val (.int (0 : Int32)), .val (.int (2 : Int32))] [])) _
  refine own_back (fun t k => XS.aloadN X0.here hx rfl (hb hby hnpn_d0) rfl rfl k) ?_
  show OwnGo p e below (s₁.setTop (mkF m 1 #[.val (.ref t1), .val (.int (0 : Int32)), .val (.int (2 : Int32))] [(.ref t1)])) _
  refine own_back (fun t k => XS.iloadN X0.here hx rfl (hb hby hnpn_d1) rfl k) ?_
  show OwnGo p e below (s₁.setTop (mkF m 2 #[.val (.ref t1), .val (.int (0 : Int32)), .val (.int (2 : Int32))] [(.int (0 : Int32)), (.ref t1)])) _
  refine own_back (fun t k => XS.iloadN X0.here hx rfl (hb hby hnpn_d2) rfl k) ?_
  show OwnGo p e below (s₁.setTop (mkF m 3 #[.val (.ref t1), .val (.int (0 : Int32)), .val (.int (2 : Int32))] [(.int (2 : Int32)), (.int (0 : Int32)), (.ref t1)])) _
  obtain ⟨_, _, ⟨T558, L558, k558, n558⟩, -, X558, ⟨Lc558, hQ558, l558, y558, z558⟩, st558⟩ := Jvm.LawKit.callS X0 hx (y := (⟨"java/lang/StringCoding", "countPositives", "([BII)I"⟩ : MethodName)) hown (mvT hZ (hw _ (List.mem_of_getElem? (i := 72) rfl))) (mvT hZ (hw _ (List.mem_of_getElem? (i := 73) rfl))) (mvT hZ (hw _ (List.mem_of_getElem? (i := 70) rfl))) (mvT hZ (hw _ (List.mem_of_getElem? (i := 74) rfl))) (by decide) (own_backN (W := 0) (rm_cppn l Z a0 hw [] t1 k1 y0 y1 h0 n0 Z0 V1 s0 s1) hZ (hw _ (List.mem_of_getElem? (i := 74) rfl)) (hw _ (List.mem_of_getElem? (i := 70) rfl)) (by decide) (by decide)) (g := (mkF m 3 #[.val (.ref t1), .val (.int (0 : Int32)), .val (.int (2 : Int32))] [(.int (2 : Int32)), (.int (0 : Int32)), (.ref t1)])) rfl (by rw [hml]; rfl) (argsL := [(.ref t1), (.int (0 : Int32)), (.int (2 : Int32))]) (rest := []) (lenOf hnpn_pd0 rfl) rfl (by show 2 * 0 + _ ≤ _; exact Nat.le_of_eq rfl) (hb hby hnpn_d3) (fun _ _ => ⟨rfl, e0, Nat.le_of_ble_eq_true rfl, Nat.le_of_ble_eq_true rfl⟩)
  dsimp only [Pt.U, Pt.locs, Pt.cells, Pt.slots] at X558 l558 y558 z558 st558 hQ558
  subst l558 y558 z558
  obtain ⟨rfl, N558q, hh558⟩ := hQ558
  refine own_back st558 ?_
  have N558 := Fr.app N0 N558q
  show OwnGo p e below (T558.setTop (mkF m 6 #[.val (.ref t1), .val (.int (0 : Int32)), .val (.int (2 : Int32))] [(.int (1 : Int32))])) _
  refine own_back (fun t k => XS.iloadN X558.here hx rfl (hb hby hnpn_d6) rfl k) ?_
  show OwnGo p e below (T558.setTop (mkF m 7 #[.val (.ref t1), .val (.int (0 : Int32)), .val (.int (2 : Int32))] [(.int (2 : Int32)), (.int (1 : Int32))])) _
  refine own_back (fun t k => XS.icmpNo X558.here hx rfl (hb hby hnpn_d7) rfl (Jvm.Free.XT.ii_eq_f (by decide)) k) ?_
  show OwnGo p e below (T558.setTop (mkF m 10 #[.val (.ref t1), .val (.int (0 : Int32)), .val (.int (2 : Int32))] [])) _
  refine own_back (fun t k => XS.iconst X558.here hx rfl (hb hby hnpn_d10) k) ?_
  show OwnGo p e below (T558.setTop (mkF m 11 #[.val (.ref t1), .val (.int (0 : Int32)), .val (.int (2 : Int32))] [(.int (1 : Int32))])) _
  refine own_back (fun t k => XS.goto X558.here hx rfl (pc0 := 11) (pc' := 15) rfl (hb hby hnpn_d11) (by decide) (by decide) k) ?_
  show OwnGo p e below (T558.setTop (mkF m 15 #[.val (.ref t1), .val (.int (0 : Int32)), .val (.int (2 : Int32))] [(.int (1 : Int32))])) _
  refine own_retN X558 hx Bd.notSynchronized (t := .boolean) (z := (1 : Int32)) Bd.returns (by simp) rfl (hb hby hnpn_d15) hh558 (Nat.le_of_ble_eq_true rfl) (Nat.le_of_ble_eq_true rfl) ?_
  exact ⟨rfl, N558, rfl⟩
theorem eupn_d0 : decode jdk_42_method_46_code 0 = .ok (.iload_n 0, 1) := by decide +kernel
theorem eupn_d1 : decode jdk_42_method_46_code 1 = .ok (.iconst 1, 1) := by decide +kernel
theorem eupn_d2 : decode jdk_42_method_46_code 2 = .ok (.if_icmp .ne 9, 3) := by decide +kernel
theorem eupn_d11 : decode jdk_42_method_46_code 11 = .ok (.aload_n 1, 1) := by decide +kernel
theorem eupn_d12 : decode jdk_42_method_46_code 12 = .ok (.iconst 0, 1) := by decide +kernel
theorem eupn_d13 : decode jdk_42_method_46_code 13 = .ok (.aload_n 1, 1) := by decide +kernel
theorem eupn_d14 : decode jdk_42_method_46_code 14 = .ok (.arraylength, 1) := by decide +kernel
theorem eupn_d15 : decode jdk_42_method_46_code 15 = .ok (.invokestatic 128, 3) := by decide +kernel
theorem eupn_d18 : decode jdk_42_method_46_code 18 = .ok (.ifCond .ne 11, 3) := by decide +kernel
theorem eupn_d29 : decode jdk_42_method_46_code 29 = .ok (.iconst 0, 1) := by decide +kernel
theorem eupn_d30 : decode jdk_42_method_46_code 30 = .ok (.istore_n 3, 1) := by decide +kernel
theorem eupn_d31 : decode jdk_42_method_46_code 31 = .ok (.aload_n 1, 1) := by decide +kernel
theorem eupn_d32 : decode jdk_42_method_46_code 32 = .ok (.arraylength, 1) := by decide +kernel
theorem eupn_d33 : decode jdk_42_method_46_code 33 = .ok (.invokestatic 60, 3) := by decide +kernel
theorem eupn_d36 : decode jdk_42_method_46_code 36 = .ok (.astore 4, 2) := by decide +kernel
theorem eupn_d38 : decode jdk_42_method_46_code 38 = .ok (.aload_n 1, 1) := by decide +kernel
theorem eupn_d39 : decode jdk_42_method_46_code 39 = .ok (.astore 5, 2) := by decide +kernel
theorem eupn_d41 : decode jdk_42_method_46_code 41 = .ok (.aload 5, 2) := by decide +kernel
theorem eupn_d43 : decode jdk_42_method_46_code 43 = .ok (.arraylength, 1) := by decide +kernel
theorem eupn_d44 : decode jdk_42_method_46_code 44 = .ok (.istore 6, 2) := by decide +kernel
theorem eupn_d46 : decode jdk_42_method_46_code 46 = .ok (.iconst 0, 1) := by decide +kernel
theorem eupn_d47 : decode jdk_42_method_46_code 47 = .ok (.istore 7, 2) := by decide +kernel
theorem eupn_d49 : decode jdk_42_method_46_code 49 = .ok (.iload 7, 2) := by decide +kernel
theorem eupn_d51 : decode jdk_42_method_46_code 51 = .ok (.iload 6, 2) := by decide +kernel
theorem eupn_d53 : decode jdk_42_method_46_code 53 = .ok (.if_icmp .ge 71, 3) := by decide +kernel
theorem eupn_d56 : decode jdk_42_method_46_code 56 = .ok (.aload 5, 2) := by decide +kernel
theorem eupn_d58 : decode jdk_42_method_46_code 58 = .ok (.iload 7, 2) := by decide +kernel
theorem eupn_d60 : decode jdk_42_method_46_code 60 = .ok (.baload, 1) := by decide +kernel
theorem eupn_d61 : decode jdk_42_method_46_code 61 = .ok (.istore 8, 2) := by decide +kernel
theorem eupn_d63 : decode jdk_42_method_46_code 63 = .ok (.iload 8, 2) := by decide +kernel
theorem eupn_d65 : decode jdk_42_method_46_code 65 = .ok (.ifCond .ge 44, 3) := by decide +kernel
theorem eupn_d68 : decode jdk_42_method_46_code 68 = .ok (.aload 4, 2) := by decide +kernel
theorem eupn_d70 : decode jdk_42_method_46_code 70 = .ok (.iload_n 3, 1) := by decide +kernel
theorem eupn_d71 : decode jdk_42_method_46_code 71 = .ok (.iinc 3 1, 3) := by decide +kernel
theorem eupn_d74 : decode jdk_42_method_46_code 74 = .ok (.sipush 192, 3) := by decide +kernel
theorem eupn_d77 : decode jdk_42_method_46_code 77 = .ok (.iload 8, 2) := by decide +kernel
theorem eupn_d79 : decode jdk_42_method_46_code 79 = .ok (.sipush 255, 3) := by decide +kernel
theorem eupn_d82 : decode jdk_42_method_46_code 82 = .ok (.iand, 1) := by decide +kernel
theorem eupn_d83 : decode jdk_42_method_46_code 83 = .ok (.bipush 6, 2) := by decide +kernel
theorem eupn_d85 : decode jdk_42_method_46_code 85 = .ok (.ishr, 1) := by decide +kernel
theorem eupn_d86 : decode jdk_42_method_46_code 86 = .ok (.ior, 1) := by decide +kernel
theorem eupn_d87 : decode jdk_42_method_46_code 87 = .ok (.i2b, 1) := by decide +kernel
theorem eupn_d88 : decode jdk_42_method_46_code 88 = .ok (.bastore, 1) := by decide +kernel
theorem eupn_d89 : decode jdk_42_method_46_code 89 = .ok (.aload 4, 2) := by decide +kernel
theorem eupn_d91 : decode jdk_42_method_46_code 91 = .ok (.iload_n 3, 1) := by decide +kernel
theorem eupn_d92 : decode jdk_42_method_46_code 92 = .ok (.iinc 3 1, 3) := by decide +kernel
theorem eupn_d95 : decode jdk_42_method_46_code 95 = .ok (.sipush 128, 3) := by decide +kernel
theorem eupn_d98 : decode jdk_42_method_46_code 98 = .ok (.iload 8, 2) := by decide +kernel
theorem eupn_d100 : decode jdk_42_method_46_code 100 = .ok (.bipush 63, 2) := by decide +kernel
theorem eupn_d102 : decode jdk_42_method_46_code 102 = .ok (.iand, 1) := by decide +kernel
theorem eupn_d103 : decode jdk_42_method_46_code 103 = .ok (.ior, 1) := by decide +kernel
theorem eupn_d104 : decode jdk_42_method_46_code 104 = .ok (.i2b, 1) := by decide +kernel
theorem eupn_d105 : decode jdk_42_method_46_code 105 = .ok (.bastore, 1) := by decide +kernel
theorem eupn_d106 : decode jdk_42_method_46_code 106 = .ok (.goto 12, 3) := by decide +kernel
theorem eupn_d109 : decode jdk_42_method_46_code 109 = .ok (.aload 4, 2) := by decide +kernel
theorem eupn_d111 : decode jdk_42_method_46_code 111 = .ok (.iload_n 3, 1) := by decide +kernel
theorem eupn_d112 : decode jdk_42_method_46_code 112 = .ok (.iinc 3 1, 3) := by decide +kernel
theorem eupn_d115 : decode jdk_42_method_46_code 115 = .ok (.iload 8, 2) := by decide +kernel
theorem eupn_d117 : decode jdk_42_method_46_code 117 = .ok (.bastore, 1) := by decide +kernel
theorem eupn_d118 : decode jdk_42_method_46_code 118 = .ok (.iinc 7 1, 3) := by decide +kernel
theorem eupn_d121 : decode jdk_42_method_46_code 121 = .ok (.goto (-72), 3) := by decide +kernel
theorem eupn_d124 : decode jdk_42_method_46_code 124 = .ok (.iload_n 3, 1) := by decide +kernel
theorem eupn_d125 : decode jdk_42_method_46_code 125 = .ok (.aload 4, 2) := by decide +kernel
theorem eupn_d127 : decode jdk_42_method_46_code 127 = .ok (.arraylength, 1) := by decide +kernel
theorem eupn_d128 : decode jdk_42_method_46_code 128 = .ok (.if_icmp .ne 6, 3) := by decide +kernel
theorem eupn_d134 : decode jdk_42_method_46_code 134 = .ok (.aload 4, 2) := by decide +kernel
theorem eupn_d136 : decode jdk_42_method_46_code 136 = .ok (.iload_n 3, 1) := by decide +kernel
theorem eupn_d137 : decode jdk_42_method_46_code 137 = .ok (.invokestatic 102, 3) := by decide +kernel
theorem eupn_d140 : decode jdk_42_method_46_code 140 = .ok (.areturn, 1) := by decide +kernel
theorem eupn_pn : plainName "java/lang/String" = true := by first | (simp [plainName, overriddenIn]; done) | decide +kernel
theorem eupn_pd0 : parseMethodDescriptor "([BII)Z" = some ⟨[(.array .byte), .int, .int], some .boolean⟩ := by decide +kernel
theorem eupn_pd1 : parseMethodDescriptor "(I)[B" = some ⟨[.int], some (.array .byte)⟩ := by decide +kernel
theorem eupn_pd2 : parseMethodDescriptor "([BI)[B" = some ⟨[(.array .byte), .int], some (.array .byte)⟩ := by decide +kernel
theorem eupn_ef (m : MethodId) (x0 : Int32) (x1 : Addr) (x2 : Int32) : entryFrame m #[(.int x0), (.ref x1), (.int x2)] 9 = mkF m 0 #[.val (.int x0), .val (.ref x1), .val (.int x2), .unset, .unset, .unset, .unset, .unset, .unset] [] := by first | (simp [entryFrame, mkF, argsToLocals, Value.category]; done) | rfl
set_option maxRecDepth 65536 in
set_option maxHeartbeats 40000000 in
theorem rm_eupn (l : Launch) (Z : State) (a0 : Array Value) (hw : ∀ d ∈ tables_1, d.before a0 Z = true) (ws : List Jvm.Cond) (t1 : Addr) (k1 : ClassId) (y0 : Int32) (y1 : Int32) (h0 : Heap) (n0 : Nat) (Z0 : n0 ≤ h0.size) (OL : Old Z n0 h0) (V1 : Arv Z h0 t1 k1 .byte (2 : Int32) [.int y0, .int y1] (.int 0)) (X1 : Exa Z h0 t1 "[B") (s0 : ¬ y0 < 0) (s1 : y1 < 0) :
    MetFree l (⟨"java/lang/String", "encodeUTF8", "(B[BZ)[B"⟩ : MethodName) (head1 (Jvm.Cond.code (⟨"java/lang/String", "encodeUTF8", "(B[BZ)[B"⟩ : MethodName) jdk_42_method_46_code 9 (some (.array .byte)) :: ws) ({ frames := 2, cells := 2, slots := 8, locals := 90 } : Room)) (fun a U => a = #[(.int (0 : Int32)), (.ref t1), (.int (1 : Int32))] ∧ Z.Warmed39 U.vm ∧ U.heap = h0) (fun _ _ _ _ _ => True) (fun _ U o U' => OwnEnd U (fun v h L => ∃ b, v = some (.ref b) ∧ Fr n0 L ∧ Ext h0 h) ({ frames := 2, cells := 2, slots := 8, locals := 90 } : Room).cells ({ frames := 2, cells := 2, slots := 8, locals := 90 } : Room).slots o U') := by
  refine MetFree.of_bodySF (plainFor_of_name eupn_pn) hisR ?_
  intro p e s m args below meth c s₁ Bd hml0 hP hK
  obtain ⟨rfl, hZ, hh⟩ := hP
  have hx := Bd.exec
  have hby := Bd.bytes
  have hml : c.maxLocals = 9 := hml0
  have hown : s.vm.findClass "java/lang/String" = some m.cls := findClass_of_methodNamed Bd.named
  have hnm := (name_of_methodNamed Bd.named Bd.method).1
  have X0 : Stand p l e ({ frames := 2, cells := 2, slots := 8, locals := 90 } : Room) s m #[(.int (0 : Int32)), (.ref t1), (.int (1 : Int32))] below meth c s₁ [] 0 0 := Stand.of_body Bd
  have e0 : s₁.heap = h0 := by rw [← hh, Bd.state]; rfl
  have N0 := Fr.nil n0
  have KP0 := Keep.refl h0 []
  refine own_go (Q := (OwnEnd s (fun v h L => ∃ b, v = some (.ref b) ∧ Fr n0 L ∧ Ext h0 h) ({ frames := 2, cells := 2, slots := 8, locals := 90 } : Room).cells ({ frames := 2, cells := 2, slots := 8, locals := 90 } : Room).slots)) ?_
  refine own_back (fun t k => castTop (eupn_ef m (0 : Int32) t1 (1 : Int32)) k) ?_
  show OwnGo p e below (s₁.setTop (mkF m 0 #[.val (.int (0 : Int32)), .val (.ref t1), .val (.int (1 : Int32)), .unset, .unset, .unset, .unset, .unset, .unset] [])) _
  refine own_back (fun t k => XS.iloadN X0.here hx rfl (hb hby eupn_d0) rfl k) ?_
  refine own_back (fun t k => XS.iconst X0.here hx rfl (hb hby eupn_d1) k) ?_
  refine own_back (fun t k => XS.icmpYes X0.here hx rfl (pc0 := 2) (pc' := 11) rfl (hb hby eupn_d2) rfl (Jvm.Free.XT.ii_ne_t (by decide)) (by decide) (by decide) k) ?_
  show OwnGo p e below (s₁.setTop (mkF m 11 #[.val (.int (0 : Int32)), .val (.ref t1), .val (.int (1 : Int32)), .unset, .unset, .unset, .unset, .unset, .unset] [])) _
  refine own_back (fun t k => XS.aloadN X0.here hx rfl (hb hby eupn_d11) rfl rfl k) ?_
  show OwnGo p e below (s₁.setTop (mkF m 12 #[.val (.int (0 : Int32)), .val (.ref t1), .val (.int (1 : Int32)), .unset, .unset, .unset, .unset, .unset, .unset] [(.ref t1)])) _
  refine own_back (fun t k => XS.iconst X0.here hx rfl (hb hby eupn_d12) k) ?_
  refine own_back (fun t k => XS.aloadN X0.here hx rfl (hb hby eupn_d13) rfl rfl k) ?_
  obtain ⟨c559, A559, q559, S559, M559, H559, U559⟩ := id V1
  refine own_back (fun t k => X0.arraylength hx (own_hat e0 A559.1) (State.isArrayOf_alike hZ.alike A559.2.1) (g := (mkF m 14 #[.val (.int (0 : Int32)), .val (.ref t1), .val (.int (1 : Int32)), .unset, .unset, .unset, .unset, .unset, .unset] [(.ref t1), (.int (0 : Int32)), (.ref t1)])) rfl rfl (hb hby eupn_d14) t k) ?_
  rw [len_of S559 M559]
  show OwnGo p e below (s₁.setTop (mkF m 15 #[.val (.int (0 : Int32)), .val (.ref t1), .val (.int (1 : Int32)), .unset, .unset, .unset, .unset, .unset, .unset] [(.int (2 : Int32)), (.int (0 : Int32)), (.ref t1)])) _
  obtain ⟨_, _, ⟨T560, L560, k560, n560⟩, -, X560, ⟨Lc560, hQ560, l560, y560, z560⟩, st560⟩ := Jvm.LawKit.callS X0 hx (y := (⟨"java/lang/StringCoding", "hasNegatives", "([BII)Z"⟩ : MethodName)) hown (mvT hZ (hw _ (List.mem_of_getElem? (i := 68) rfl))) (mvT hZ (hw _ (List.mem_of_getElem? (i := 69) rfl))) (mvT hZ (hw _ (List.mem_of_getElem? (i := 70) rfl))) (mvT hZ (hw _ (List.mem_of_getElem? (i := 71) rfl))) (by decide) (own_backN (W := 0) (rm_hnpn l Z a0 hw [] t1 k1 y0 y1 h0 n0 Z0 V1 s0 s1) hZ (hw _ (List.mem_of_getElem? (i := 71) rfl)) (hw _ (List.mem_of_getElem? (i := 70) rfl)) (by decide) (by decide)) (g := (mkF m 15 #[.val (.int (0 : Int32)), .val (.ref t1), .val (.int (1 : Int32)), .unset, .unset, .unset, .unset, .unset, .unset] [(.int (2 : Int32)), (.int (0 : Int32)), (.ref t1)])) rfl (by rw [hml]; rfl) (argsL := [(.ref t1), (.int (0 : Int32)), (.int (2 : Int32))]) (rest := []) (lenOf eupn_pd0 rfl) rfl (by show 2 * 0 + _ ≤ _; exact Nat.le_of_eq rfl) (hb hby eupn_d15) (fun _ _ => ⟨rfl, e0, Nat.le_of_ble_eq_true rfl, Nat.le_of_ble_eq_true rfl⟩)
  dsimp only [Pt.U, Pt.locs, Pt.cells, Pt.slots] at X560 l560 y560 z560 st560 hQ560
  subst l560 y560 z560
  obtain ⟨rfl, N560q, hh560⟩ := hQ560
  refine own_back st560 ?_
  have N560 := Fr.app N0 N560q
  show OwnGo p e below (T560.setTop (mkF m 18 #[.val (.int (0 : Int32)), .val (.ref t1), .val (.int (1 : Int32)), .unset, .unset, .unset, .unset, .unset, .unset] [(.int (1 : Int32))])) _
  refine own_back (fun t k => XS.ifYes X560.here hx rfl (pc0 := 18) (pc' := 29) rfl (hb hby eupn_d18) rfl (Jvm.Free.XT.i0_ne_t (by decide)) (by decide) (by decide) k) ?_
  show OwnGo p e below (T560.setTop (mkF m 29 #[.val (.int (0 : Int32)), .val (.ref t1), .val (.int (1 : Int32)), .unset, .unset, .unset, .unset, .unset, .unset] [])) _
  refine own_back (fun t k => XS.iconst X560.here hx rfl (hb hby eupn_d29) k) ?_
  refine own_back (fun t k => XS.istoreN X560.here hx rfl (hb hby eupn_d30) rfl (l' := #[.val (.int (0 : Int32)), .val (.ref t1), .val (.int (1 : Int32)), .val (.int (0 : Int32)), .unset, .unset, .unset, .unset, .unset]) rfl k) ?_
  refine own_back (fun t k => XS.aloadN X560.here hx rfl (hb hby eupn_d31) rfl rfl k) ?_
  show OwnGo p e below (T560.setTop (mkF m 32 #[.val (.int (0 : Int32)), .val (.ref t1), .val (.int (1 : Int32)), .val (.int (0 : Int32)), .unset, .unset, .unset, .unset, .unset] [(.ref t1)])) _
  obtain ⟨c561, A561, q561, S561, M561, H561, U561⟩ := id V1
  refine own_back (fun t k => X560.arraylength hx (own_hat hh560 A561.1) (State.isArrayOf_alike hZ.alike A561.2.1) (g := (mkF m 32 #[.val (.int (0 : Int32)), .val (.ref t1), .val (.int (1 : Int32)), .val (.int (0 : Int32)), .unset, .unset, .unset, .unset, .unset] [(.ref t1)])) rfl rfl (hb hby eupn_d32) t k) ?_
  rw [len_of S561 M561]
  obtain ⟨_, _, ⟨T562, L562, k562, n562⟩, -, X562, ⟨Lc562, hQ562, l562, y562, z562⟩, st562⟩ := Jvm.LawKit.callS X560 hx (y := (⟨"java/lang/StringUTF16", "newBytesFor", "(I)[B"⟩ : MethodName)) hown (mvT hZ (hw _ (List.mem_of_getElem? (i := 122) rfl))) (mvT hZ (hw _ (List.mem_of_getElem? (i := 123) rfl))) (mvT hZ (hw _ (List.mem_of_getElem? (i := 112) rfl))) (mvT hZ (hw _ (List.mem_of_getElem? (i := 124) rfl))) (by decide) (own_backN (W := 0) (rm_nbf2 l Z a0 hw [] h0 n0 Z0 OL) hZ (hw _ (List.mem_of_getElem? (i := 124) rfl)) (hw _ (List.mem_of_getElem? (i := 112) rfl)) (by decide) (by decide)) (g := (mkF m 33 #[.val (.int (0 : Int32)), .val (.ref t1), .val (.int (1 : Int32)), .val (.int (0 : Int32)), .unset, .unset, .unset, .unset, .unset] [(.int (2 : Int32))])) rfl (by rw [hml]; rfl) (argsL := [(.int (2 : Int32))]) (rest := []) (lenOf eupn_pd1 rfl) rfl (by show 2 * 0 + _ ≤ _; exact Nat.le_of_eq rfl) (hb hby eupn_d33) (fun _ _ => ⟨rfl, hh560, Nat.le_of_ble_eq_true rfl, Nat.le_of_ble_eq_true rfl⟩)
  dsimp only [Pt.U, Pt.locs, Pt.cells, Pt.slots] at X562 l562 y562 z562 st562 hQ562
  subst l562 y562 z562
  obtain ⟨bq562, kq562, rfl, N562q, E562, g562, z562, V562⟩ := hQ562
  refine own_back st562 ?_
  have N562 := Fr.app N560 N562q
  have O563 := OL.ext E562
  have KP564 := KP0.ext E562
  have Zs565 := Nat.le_trans Z0 E562.1
  have f566 := V1.ext E562
  show OwnGo p e below (T562.setTop (mkF m 36 #[.val (.int (0 : Int32)), .val (.ref t1), .val (.int (1 : Int32)), .val (.int (0 : Int32)), .unset, .unset, .unset, .unset, .unset] [(.ref bq562)])) _
  refine own_back (fun t k => XS.astore X562.here hx rfl (hb hby eupn_d36) rfl rfl (l' := #[.val (.int (0 : Int32)), .val (.ref t1), .val (.int (1 : Int32)), .val (.int (0 : Int32)), .val (.ref bq562), .unset, .unset, .unset, .unset]) rfl k) ?_
  refine own_back (fun t k => XS.aloadN X562.here hx rfl (hb hby eupn_d38) rfl rfl k) ?_
  show OwnGo p e below (T562.setTop (mkF m 39 #[.val (.int (0 : Int32)), .val (.ref t1), .val (.int (1 : Int32)), .val (.int (0 : Int32)), .val (.ref bq562), .unset, .unset, .unset, .unset] [(.ref t1)])) _
  refine own_back (fun t k => XS.astore X562.here hx rfl (hb hby eupn_d39) rfl rfl (l' := #[.val (.int (0 : Int32)), .val (.ref t1), .val (.int (1 : Int32)), .val (.int (0 : Int32)), .val (.ref bq562), .val (.ref t1), .unset, .unset, .unset]) rfl k) ?_
  refine own_back (fun t k => XS.aload X562.here hx rfl (hb hby eupn_d41) rfl rfl k) ?_
  obtain ⟨c567, A567, q567, S567, M567, H567, U567⟩ := id f566
  refine own_back (fun t k => X562.arraylength hx (own_hat rfl A567.1) (State.isArrayOf_alike hZ.alike A567.2.1) (g := (mkF m 43 #[.val (.int (0 : Int32)), .val (.ref t1), .val (.int (1 : Int32)), .val (.int (0 : Int32)), .val (.ref bq562), .val (.ref t1), .unset, .unset, .unset] [(.ref t1)])) rfl rfl (hb hby eupn_d43) t k) ?_
  rw [len_of S567 M567]
  show OwnGo p e below (T562.setTop (mkF m 44 #[.val (.int (0 : Int32)), .val (.ref t1), .val (.int (1 : Int32)), .val (.int (0 : Int32)), .val (.ref bq562), .val (.ref t1), .unset, .unset, .unset] [(.int (2 : Int32))])) _
  refine own_back (fun t k => XS.istore X562.here hx rfl (hb hby eupn_d44) rfl (l' := #[.val (.int (0 : Int32)), .val (.ref t1), .val (.int (1 : Int32)), .val (.int (0 : Int32)), .val (.ref bq562), .val (.ref t1), .val (.int (2 : Int32)), .unset, .unset]) rfl k) ?_
  refine own_back (fun t k => XS.iconst X562.here hx rfl (hb hby eupn_d46) k) ?_
  refine own_back (fun t k => XS.istore X562.here hx rfl (hb hby eupn_d47) rfl (l' := #[.val (.int (0 : Int32)), .val (.ref t1), .val (.int (1 : Int32)), .val (.int (0 : Int32)), .val (.ref bq562), .val (.ref t1), .val (.int (2 : Int32)), .val (.int (0 : Int32)), .unset]) rfl k) ?_
  show OwnGo p e below (T562.setTop (mkF m 49 #[.val (.int (0 : Int32)), .val (.ref t1), .val (.int (1 : Int32)), .val (.int (0 : Int32)), .val (.ref bq562), .val (.ref t1), .val (.int (2 : Int32)), .val (.int (0 : Int32)), .unset] [])) _
  refine own_back (fun t k => XS.iload X562.here hx rfl (hb hby eupn_d49) rfl k) ?_
  refine own_back (fun t k => XS.iload X562.here hx rfl (hb hby eupn_d51) rfl k) ?_
  refine own_back (fun t k => XS.icmpNo X562.here hx rfl (hb hby eupn_d53) rfl (Jvm.Free.XT.ii_ge_f (by decide)) k) ?_
  show OwnGo p e below (T562.setTop (mkF m 56 #[.val (.int (0 : Int32)), .val (.ref t1), .val (.int (1 : Int32)), .val (.int (0 : Int32)), .val (.ref bq562), .val (.ref t1), .val (.int (2 : Int32)), .val (.int (0 : Int32)), .unset] [])) _
  refine own_back (fun t k => XS.aload X562.here hx rfl (hb hby eupn_d56) rfl rfl k) ?_
  show OwnGo p e below (T562.setTop (mkF m 58 #[.val (.int (0 : Int32)), .val (.ref t1), .val (.int (1 : Int32)), .val (.int (0 : Int32)), .val (.ref bq562), .val (.ref t1), .val (.int (2 : Int32)), .val (.int (0 : Int32)), .unset] [(.ref t1)])) _
  refine own_back (fun t k => XS.iload X562.here hx rfl (hb hby eupn_d58) rfl k) ?_
  obtain ⟨c568, A568, q568, S568, M568, H568, U568⟩ := id f566
  have ib569 : ¬ ((0 : Int32) < 0 ∨ c568.slots.size ≤ ((0 : Int32)).toNatClampNeg) := (inb_of S568 ⟨by decide, by decide⟩)
  refine own_back (fun t k => X562.baloadBytes hx (j := (0 : Int32)) (v := (.int y0)) (own_hat rfl A568.1) (State.isArrayOf_alike hZ.alike A568.2.1) A568.2.2 ib569 (H568.at ib569 rfl) (g := (mkF m 60 #[.val (.int (0 : Int32)), .val (.ref t1), .val (.int (1 : Int32)), .val (.int (0 : Int32)), .val (.ref bq562), .val (.ref t1), .val (.int (2 : Int32)), .val (.int (0 : Int32)), .unset] [(.int (0 : Int32)), (.ref t1)])) rfl rfl (hb hby eupn_d60) t k) ?_
  refine own_back (fun t k => XS.istore X562.here hx rfl (hb hby eupn_d61) rfl (l' := #[.val (.int (0 : Int32)), .val (.ref t1), .val (.int (1 : Int32)), .val (.int (0 : Int32)), .val (.ref bq562), .val (.ref t1), .val (.int (2 : Int32)), .val (.int (0 : Int32)), .val (.int y0)]) rfl k) ?_
  show OwnGo p e below (T562.setTop (mkF m 63 #[.val (.int (0 : Int32)), .val (.ref t1), .val (.int (1 : Int32)), .val (.int (0 : Int32)), .val (.ref bq562), .val (.ref t1), .val (.int (2 : Int32)), .val (.int (0 : Int32)), .val (.int y0)] [])) _
  refine own_back (fun t k => XS.iload X562.here hx rfl (hb hby eupn_d63) rfl k) ?_
  refine own_back (fun t k => XS.ifYes X562.here hx rfl (pc0 := 65) (pc' := 109) rfl (hb hby eupn_d65) rfl (Jvm.Free.XT.i0_ge_t s0) (by decide) (by decide) k) ?_
  show OwnGo p e below (T562.setTop (mkF m 109 #[.val (.int (0 : Int32)), .val (.ref t1), .val (.int (1 : Int32)), .val (.int (0 : Int32)), .val (.ref bq562), .val (.ref t1), .val (.int (2 : Int32)), .val (.int (0 : Int32)), .val (.int y0)] [])) _
  refine own_back (fun t k => XS.aload X562.here hx rfl (hb hby eupn_d109) rfl rfl k) ?_
  refine own_back (fun t k => XS.iloadN X562.here hx rfl (hb hby eupn_d111) rfl k) ?_
  show OwnGo p e below (T562.setTop (mkF m 112 #[.val (.int (0 : Int32)), .val (.ref t1), .val (.int (1 : Int32)), .val (.int (0 : Int32)), .val (.ref bq562), .val (.ref t1), .val (.int (2 : Int32)), .val (.int (0 : Int32)), .val (.int y0)] [(.int (0 : Int32)), (.ref bq562)])) _
  refine own_back (fun t k => XS.iinc X562.here hx rfl (hb hby eupn_d112) rfl (l' := #[.val (.int (0 : Int32)), .val (.ref t1), .val (.int (1 : Int32)), .val (.int (1 : Int32)), .val (.ref bq562), .val (.ref t1), .val (.int (2 : Int32)), .val (.int (0 : Int32)), .val (.int y0)]) rfl k) ?_
  refine own_back (fun t k => XS.iload X562.here hx rfl (hb hby eupn_d115) rfl k) ?_
  obtain ⟨c570, A570, q570, S570, M570, H570, U570⟩ := id V562
  obtain ⟨T571, h571, X571, e571, W571, st571⟩ := stB X562 hx hZ rfl A570 (j := (0 : Int32)) (inb_of S570 ⟨by decide, by decide⟩) (g := (mkF m 117 #[.val (.int (0 : Int32)), .val (.ref t1), .val (.int (1 : Int32)), .val (.int (1 : Int32)), .val (.ref bq562), .val (.ref t1), .val (.int (2 : Int32)), .val (.int (0 : Int32)), .val (.int y0)] [(.int y0), (.int (0 : Int32)), (.ref bq562)])) rfl rfl (hb hby eupn_d117)
  have O572 := O563.wr W571 g562
  have KP573 := KP564.wr W571 (Or.inr z562)
  have Zs574 := Nat.le_trans Zs565 (Keep.of_wr W571).1
  have f575 := f566.other W571 (Nat.ne_of_lt (Nat.lt_of_lt_of_le V1.lt z562))
  have V576 : Arv Z h571 bq562 kq562 .byte (4 : Int32) [(.int y0.toInt8.toInt32), (.int 0), (.int 0), (.int 0)] (.int 0) := Arv.set A570 q570 S570 M570 H570 U570 (fits_nar_byte _) W571 0 rfl (Nat.le_of_ble_eq_true rfl)
  have N577 := Fr.snoc X571 N562 g562
  refine own_back st571 ?_
  show OwnGo p e below (T571.setTop (mkF m 118 #[.val (.int (0 : Int32)), .val (.ref t1), .val (.int (1 : Int32)), .val (.int (1 : Int32)), .val (.ref bq562), .val (.ref t1), .val (.int (2 : Int32)), .val (.int (0 : Int32)), .val (.int y0)] [])) _
  refine own_back (fun t k => XS.iinc X571.here hx rfl (hb hby eupn_d118) rfl (l' := #[.val (.int (0 : Int32)), .val (.ref t1), .val (.int (1 : Int32)), .val (.int (1 : Int32)), .val (.ref bq562), .val (.ref t1), .val (.int (2 : Int32)), .val (.int (1 : Int32)), .val (.int y0)]) rfl k) ?_
  refine own_back (fun t k => XS.goto X571.here hx rfl (pc0 := 121) (pc' := 49) rfl (hb hby eupn_d121) (by decide) (by decide) k) ?_
  refine own_back (fun t k => XS.iload X571.here hx rfl (hb hby eupn_d49) rfl k) ?_
  show OwnGo p e below (T571.setTop (mkF m 51 #[.val (.int (0 : Int32)), .val (.ref t1), .val (.int (1 : Int32)), .val (.int (1 : Int32)), .val (.ref bq562), .val (.ref t1), .val (.int (2 : Int32)), .val (.int (1 : Int32)), .val (.int y0)] [(.int (1 : Int32))])) _
  refine own_back (fun t k => XS.iload X571.here hx rfl (hb hby eupn_d51) rfl k) ?_
  refine own_back (fun t k => XS.icmpNo X571.here hx rfl (hb hby eupn_d53) rfl (Jvm.Free.XT.ii_ge_f (by decide)) k) ?_
  show OwnGo p e below (T571.setTop (mkF m 56 #[.val (.int (0 : Int32)), .val (.ref t1), .val (.int (1 : Int32)), .val (.int (1 : Int32)), .val (.ref bq562), .val (.ref t1), .val (.int (2 : Int32)), .val (.int (1 : Int32)), .val (.int y0)] [])) _
  refine own_back (fun t k => XS.aload X571.here hx rfl (hb hby eupn_d56) rfl rfl k) ?_
  refine own_back (fun t k => XS.iload X571.here hx rfl (hb hby eupn_d58) rfl k) ?_
  show OwnGo p e below (T571.setTop (mkF m 60 #[.val (.int (0 : Int32)), .val (.ref t1), .val (.int (1 : Int32)), .val (.int (1 : Int32)), .val (.ref bq562), .val (.ref t1), .val (.int (2 : Int32)), .val (.int (1 : Int32)), .val (.int y0)] [(.int (1 : Int32)), (.ref t1)])) _
  obtain ⟨c578, A578, q578, S578, M578, H578, U578⟩ := id f575
  have ib579 : ¬ ((1 : Int32) < 0 ∨ c578.slots.size ≤ ((1 : Int32)).toNatClampNeg) := (inb_of S578 ⟨by decide, by decide⟩)
  refine own_back (fun t k => X571.baloadBytes hx (j := (1 : Int32)) (v := (.int y1)) (own_hat e571 A578.1) (State.isArrayOf_alike hZ.alike A578.2.1) A578.2.2 ib579 (H578.at ib579 rfl) (g := (mkF m 60 #[.val (.int (0 : Int32)), .val (.ref t1), .val (.int (1 : Int32)), .val (.int (1 : Int32)), .val (.ref bq562), .val (.ref t1), .val (.int (2 : Int32)), .val (.int (1 : Int32)), .val (.int y0)] [(.int (1 : Int32)), (.ref t1)])) rfl rfl (hb hby eupn_d60) t k) ?_
  refine own_back (fun t k => XS.istore X571.here hx rfl (hb hby eupn_d61) rfl (l' := #[.val (.int (0 : Int32)), .val (.ref t1), .val (.int (1 : Int32)), .val (.int (1 : Int32)), .val (.ref bq562), .val (.ref t1), .val (.int (2 : Int32)), .val (.int (1 : Int32)), .val (.int y1)]) rfl k) ?_
  refine own_back (fun t k => XS.iload X571.here hx rfl (hb hby eupn_d63) rfl k) ?_
  show OwnGo p e below (T571.setTop (mkF m 65 #[.val (.int (0 : Int32)), .val (.ref t1), .val (.int (1 : Int32)), .val (.int (1 : Int32)), .val (.ref bq562), .val (.ref t1), .val (.int (2 : Int32)), .val (.int (1 : Int32)), .val (.int y1)] [(.int y1)])) _
  refine own_back (fun t k => XS.ifNo X571.here hx rfl (hb hby eupn_d65) rfl (Jvm.Free.XT.i0_ge_f s1) k) ?_
  show OwnGo p e below (T571.setTop (mkF m 68 #[.val (.int (0 : Int32)), .val (.ref t1), .val (.int (1 : Int32)), .val (.int (1 : Int32)), .val (.ref bq562), .val (.ref t1), .val (.int (2 : Int32)), .val (.int (1 : Int32)), .val (.int y1)] [])) _
  refine own_back (fun t k => XS.aload X571.here hx rfl (hb hby eupn_d68) rfl rfl k) ?_
  refine own_back (fun t k => XS.iloadN X571.here hx rfl (hb hby eupn_d70) rfl k) ?_
  refine own_back (fun t k => XS.iinc X571.here hx rfl (hb hby eupn_d71) rfl (l' := #[.val (.int (0 : Int32)), .val (.ref t1), .val (.int (1 : Int32)), .val (.int (2 : Int32)), .val (.ref bq562), .val (.ref t1), .val (.int (2 : Int32)), .val (.int (1 : Int32)), .val (.int y1)]) rfl k) ?_
  show OwnGo p e below (T571.setTop (mkF m 74 #[.val (.int (0 : Int32)), .val (.ref t1), .val (.int (1 : Int32)), .val (.int (2 : Int32)), .val (.ref bq562), .val (.ref t1), .val (.int (2 : Int32)), .val (.int (1 : Int32)), .val (.int y1)] [(.int (1 : Int32)), (.ref bq562)])) _
  refine own_back (fun t k => XS.sipush X571.here hx rfl (hb hby eupn_d74) k) ?_
  refine own_back (fun t k => XS.iload X571.here hx rfl (hb hby eupn_d77) rfl k) ?_
  refine own_back (fun t k => XS.sipush X571.here hx rfl (hb hby eupn_d79) k) ?_
  show OwnGo p e below (T571.setTop (mkF m 82 #[.val (.int (0 : Int32)), .val (.ref t1), .val (.int (1 : Int32)), .val (.int (2 : Int32)), .val (.ref bq562), .val (.ref t1), .val (.int (2 : Int32)), .val (.int (1 : Int32)), .val (.int y1)] [(.int (255 : Int32)), (.int y1), (.int (192 : Int32)), (.int (1 : Int32)), (.ref bq562)])) _
  refine own_back (fun t k => XS.iand X571.here hx rfl (hb hby eupn_d82) rfl k) ?_
  refine own_back (fun t k => XS.bipush X571.here hx rfl (hb hby eupn_d83) k) ?_
  refine own_back (fun t k => XS.ishr X571.here hx rfl (hb hby eupn_d85) rfl k) ?_
  show OwnGo p e below (T571.setTop (mkF m 86 #[.val (.int (0 : Int32)), .val (.ref t1), .val (.int (1 : Int32)), .val (.int (2 : Int32)), .val (.ref bq562), .val (.ref t1), .val (.int (2 : Int32)), .val (.int (1 : Int32)), .val (.int y1)] [(.int ((y1 &&& (255 : Int32)) >>> ((6 : Int32) &&& 31))), (.int (192 : Int32)), (.int (1 : Int32)), (.ref bq562)])) _
  refine own_back (fun t k => XS.ior X571.here hx rfl (hb hby eupn_d86) rfl k) ?_
  refine own_back (fun t k => XS.i2b X571.here hx rfl (hb hby eupn_d87) rfl k) ?_
  obtain ⟨c580, A580, q580, S580, M580, H580, U580⟩ := id V576
  obtain ⟨T581, h581, X581, e581, W581, st581⟩ := stB X571 hx hZ e571 A580 (j := (1 : Int32)) (inb_of S580 ⟨by decide, by decide⟩) (g := (mkF m 88 #[.val (.int (0 : Int32)), .val (.ref t1), .val (.int (1 : Int32)), .val (.int (2 : Int32)), .val (.ref bq562), .val (.ref t1), .val (.int (2 : Int32)), .val (.int (1 : Int32)), .val (.int y1)] [(.int ((192 : Int32) ||| ((y1 &&& (255 : Int32)) >>> ((6 : Int32) &&& 31))).toInt8.toInt32), (.int (1 : Int32)), (.ref bq562)])) rfl rfl (hb hby eupn_d88)
  have O582 := O572.wr W581 g562
  have KP583 := KP573.wr W581 (Or.inr z562)
  have Zs584 := Nat.le_trans Zs574 (Keep.of_wr W581).1
  have f585 := f575.other W581 (Nat.ne_of_lt (Nat.lt_of_lt_of_le V1.lt z562))
  have V586 : Arv Z h581 bq562 kq562 .byte (4 : Int32) [(.int y0.toInt8.toInt32), (.int ((192 : Int32) ||| ((y1 &&& (255 : Int32)) >>> ((6 : Int32) &&& 31))).toInt8.toInt32.toInt8.toInt32), (.int 0), (.int 0)] (.int 0) := Arv.set A580 q580 S580 M580 H580 U580 (fits_nar_byte _) W581 1 rfl (Nat.le_of_ble_eq_true rfl)
  have N587 := Fr.snoc X581 N577 g562
  refine own_back st581 ?_
  show OwnGo p e below (T581.setTop (mkF m 89 #[.val (.int (0 : Int32)), .val (.ref t1), .val (.int (1 : Int32)), .val (.int (2 : Int32)), .val (.ref bq562), .val (.ref t1), .val (.int (2 : Int32)), .val (.int (1 : Int32)), .val (.int y1)] [])) _
  refine own_back (fun t k => XS.aload X581.here hx rfl (hb hby eupn_d89) rfl rfl k) ?_
  refine own_back (fun t k => XS.iloadN X581.here hx rfl (hb hby eupn_d91) rfl k) ?_
  refine own_back (fun t k => XS.iinc X581.here hx rfl (hb hby eupn_d92) rfl (l' := #[.val (.int (0 : Int32)), .val (.ref t1), .val (.int (1 : Int32)), .val (.int (3 : Int32)), .val (.ref bq562), .val (.ref t1), .val (.int (2 : Int32)), .val (.int (1 : Int32)), .val (.int y1)]) rfl k) ?_
  show OwnGo p e below (T581.setTop (mkF m 95 #[.val (.int (0 : Int32)), .val (.ref t1), .val (.int (1 : Int32)), .val (.int (3 : Int32)), .val (.ref bq562), .val (.ref t1), .val (.int (2 : Int32)), .val (.int (1 : Int32)), .val (.int y1)] [(.int (2 : Int32)), (.ref bq562)])) _
  refine own_back (fun t k => XS.sipush X581.here hx rfl (hb hby eupn_d95) k) ?_
  refine own_back (fun t k => XS.iload X581.here hx rfl (hb hby eupn_d98) rfl k) ?_
  refine own_back (fun t k => XS.bipush X581.here hx rfl (hb hby eupn_d100) k) ?_
  show OwnGo p e below (T581.setTop (mkF m 102 #[.val (.int (0 : Int32)), .val (.ref t1), .val (.int (1 : Int32)), .val (.int (3 : Int32)), .val (.ref bq562), .val (.ref t1), .val (.int (2 : Int32)), .val (.int (1 : Int32)), .val (.int y1)] [(.int (63 : Int32)), (.int y1), (.int (128 : Int32)), (.int (2 : Int32)), (.ref bq562)])) _
  refine own_back (fun t k => XS.iand X581.here hx rfl (hb hby eupn_d102) rfl k) ?_
  refine own_back (fun t k => XS.ior X581.here hx rfl (hb hby eupn_d103) rfl k) ?_
  refine own_back (fun t k => XS.i2b X581.here hx rfl (hb hby eupn_d104) rfl k) ?_
  show OwnGo p e below (T581.setTop (mkF m 105 #[.val (.int (0 : Int32)), .val (.ref t1), .val (.int (1 : Int32)), .val (.int (3 : Int32)), .val (.ref bq562), .val (.ref t1), .val (.int (2 : Int32)), .val (.int (1 : Int32)), .val (.int y1)] [(.int ((128 : Int32) ||| (y1 &&& (63 : Int32))).toInt8.toInt32), (.int (2 : Int32)), (.ref bq562)])) _
  obtain ⟨c588, A588, q588, S588, M588, H588, U588⟩ := id V586
  obtain ⟨T589, h589, X589, e589, W589, st589⟩ := stB X581 hx hZ e581 A588 (j := (2 : Int32)) (inb_of S588 ⟨by decide, by decide⟩) (g := (mkF m 105 #[.val (.int (0 : Int32)), .val (.ref t1), .val (.int (1 : Int32)), .val (.int (3 : Int32)), .val (.ref bq562), .val (.ref t1), .val (.int (2 : Int32)), .val (.int (1 : Int32)), .val (.int y1)] [(.int ((128 : Int32) ||| (y1 &&& (63 : Int32))).toInt8.toInt32), (.int (2 : Int32)), (.ref bq562)])) rfl rfl (hb hby eupn_d105)
  have O590 := O582.wr W589 g562
  have KP591 := KP583.wr W589 (Or.inr z562)
  have Zs592 := Nat.le_trans Zs584 (Keep.of_wr W589).1
  have f593 := f585.other W589 (Nat.ne_of_lt (Nat.lt_of_lt_of_le V1.lt z562))
  have V594 : Arv Z h589 bq562 kq562 .byte (4 : Int32) [(.int y0.toInt8.toInt32), (.int ((192 : Int32) ||| ((y1 &&& (255 : Int32)) >>> ((6 : Int32) &&& 31))).toInt8.toInt32.toInt8.toInt32), (.int ((128 : Int32) ||| (y1 &&& (63 : Int32))).toInt8.toInt32.toInt8.toInt32), (.int 0)] (.int 0) := Arv.set A588 q588 S588 M588 H588 U588 (fits_nar_byte _) W589 2 rfl (Nat.le_of_ble_eq_true rfl)
  have N595 := Fr.snoc X589 N587 g562
  refine own_back st589 ?_
  refine own_back (fun t k => XS.goto X589.here hx rfl (pc0 := 106) (pc' := 118) rfl (hb hby eupn_d106) (by decide) (by decide) k) ?_
  refine own_back (fun t k => XS.iinc X589.here hx rfl (hb hby eupn_d118) rfl (l' := #[.val (.int (0 : Int32)), .val (.ref t1), .val (.int (1 : Int32)), .val (.int (3 : Int32)), .val (.ref bq562), .val (.ref t1), .val (.int (2 : Int32)), .val (.int (2 : Int32)), .val (.int y1)]) rfl k) ?_
  show OwnGo p e below (T589.setTop (mkF m 121 #[.val (.int (0 : Int32)), .val (.ref t1), .val (.int (1 : Int32)), .val (.int (3 : Int32)), .val (.ref bq562), .val (.ref t1), .val (.int (2 : Int32)), .val (.int (2 : Int32)), .val (.int y1)] [])) _
  refine own_back (fun t k => XS.goto X589.here hx rfl (pc0 := 121) (pc' := 49) rfl (hb hby eupn_d121) (by decide) (by decide) k) ?_
  refine own_back (fun t k => XS.iload X589.here hx rfl (hb hby eupn_d49) rfl k) ?_
  refine own_back (fun t k => XS.iload X589.here hx rfl (hb hby eupn_d51) rfl k) ?_
  show OwnGo p e below (T589.setTop (mkF m 53 #[.val (.int (0 : Int32)), .val (.ref t1), .val (.int (1 : Int32)), .val (.int (3 : Int32)), .val (.ref bq562), .val (.ref t1), .val (.int (2 : Int32)), .val (.int (2 : Int32)), .val (.int y1)] [(.int (2 : Int32)), (.int (2 : Int32))])) _
  refine own_back (fun t k => XS.icmpYes X589.here hx rfl (pc0 := 53) (pc' := 124) rfl (hb hby eupn_d53) rfl (Jvm.Free.XT.ii_ge_t (by decide)) (by decide) (by decide) k) ?_
  show OwnGo p e below (T589.setTop (mkF m 124 #[.val (.int (0 : Int32)), .val (.ref t1), .val (.int (1 : Int32)), .val (.int (3 : Int32)), .val (.ref bq562), .val (.ref t1), .val (.int (2 : Int32)), .val (.int (2 : Int32)), .val (.int y1)] [])) _
  refine own_back (fun t k => XS.iloadN X589.here hx rfl (hb hby eupn_d124) rfl k) ?_
  refine own_back (fun t k => XS.aload X589.here hx rfl (hb hby eupn_d125) rfl rfl k) ?_
  obtain ⟨c596, A596, q596, S596, M596, H596, U596⟩ := id V594
  refine own_back (fun t k => X589.arraylength hx (own_hat e589 A596.1) (State.isArrayOf_alike hZ.alike A596.2.1) (g := (mkF m 127 #[.val (.int (0 : Int32)), .val (.ref t1), .val (.int (1 : Int32)), .val (.int (3 : Int32)), .val (.ref bq562), .val (.ref t1), .val (.int (2 : Int32)), .val (.int (2 : Int32)), .val (.int y1)] [(.ref bq562), (.int (3 : Int32))])) rfl rfl (hb hby eupn_d127) t k) ?_
  rw [len_of S596 M596]
  show OwnGo p e below (T589.setTop (mkF m 128 #[.val (.int (0 : Int32)), .val (.ref t1), .val (.int (1 : Int32)), .val (.int (3 : Int32)), .val (.ref bq562), .val (.ref t1), .val (.int (2 : Int32)), .val (.int (2 : Int32)), .val (.int y1)] [(.int (4 : Int32)), (.int (3 : Int32))])) _
  refine own_back (fun t k => XS.icmpYes X589.here hx rfl (pc0 := 128) (pc' := 134) rfl (hb hby eupn_d128) rfl (Jvm.Free.XT.ii_ne_t (by decide)) (by decide) (by decide) k) ?_
  show OwnGo p e below (T589.setTop (mkF m 134 #[.val (.int (0 : Int32)), .val (.ref t1), .val (.int (1 : Int32)), .val (.int (3 : Int32)), .val (.ref bq562), .val (.ref t1), .val (.int (2 : Int32)), .val (.int (2 : Int32)), .val (.int y1)] [])) _
  refine own_back (fun t k => XS.aload X589.here hx rfl (hb hby eupn_d134) rfl rfl k) ?_
  refine own_back (fun t k => XS.iloadN X589.here hx rfl (hb hby eupn_d136) rfl k) ?_
  obtain ⟨_, _, ⟨T597, L597, k597, n597⟩, -, X597, ⟨Lc597, hQ597, l597, y597, z597⟩, st597⟩ := Jvm.LawKit.callS X589 hx (y := (⟨"java/util/Arrays", "copyOf", "([BI)[B"⟩ : MethodName)) hown (mvT hZ (hw _ (List.mem_of_getElem? (i := 135) rfl))) (mvT hZ (hw _ (List.mem_of_getElem? (i := 136) rfl))) (mvT hZ (hw _ (List.mem_of_getElem? (i := 137) rfl))) (mvT hZ (hw _ (List.mem_of_getElem? (i := 138) rfl))) (by decide) (own_backN (W := 0) (rm_cof l Z a0 hw [] bq562 kq562 (y0.toInt8.toInt32) (((192 : Int32) ||| ((y1 &&& (255 : Int32)) >>> ((6 : Int32) &&& 31))).toInt8.toInt32.toInt8.toInt32) (((128 : Int32) ||| (y1 &&& (63 : Int32))).toInt8.toInt32.toInt8.toInt32) (0) h589 n0 Zs592 O590 V594) hZ (hw _ (List.mem_of_getElem? (i := 138) rfl)) (hw _ (List.mem_of_getElem? (i := 137) rfl)) (by decide) (by decide)) (g := (mkF m 137 #[.val (.int (0 : Int32)), .val (.ref t1), .val (.int (1 : Int32)), .val (.int (3 : Int32)), .val (.ref bq562), .val (.ref t1), .val (.int (2 : Int32)), .val (.int (2 : Int32)), .val (.int y1)] [(.int (3 : Int32)), (.ref bq562)])) rfl (by rw [hml]; rfl) (argsL := [(.ref bq562), (.int (3 : Int32))]) (rest := []) (lenOf eupn_pd2 rfl) rfl (by show 2 * 0 + _ ≤ _; exact Nat.le_of_eq rfl) (hb hby eupn_d137) (fun _ _ => ⟨rfl, e589, Nat.le_of_ble_eq_true rfl, Nat.le_of_ble_eq_true rfl⟩)
  dsimp only [Pt.U, Pt.locs, Pt.cells, Pt.slots] at X597 l597 y597 z597 st597 hQ597
  subst l597 y597 z597
  obtain ⟨bq597, rfl, N597q, E597⟩ := hQ597
  refine own_back st597 ?_
  have N597 := Fr.app N595 N597q
  have O598 := O590.ext E597
  have KP599 := KP591.ext E597
  have Zs600 := Nat.le_trans Zs592 E597.1
  have f601 := f593.ext E597
  have f602 := V594.ext E597
  show OwnGo p e below (T597.setTop (mkF m 140 #[.val (.int (0 : Int32)), .val (.ref t1), .val (.int (1 : Int32)), .val (.int (3 : Int32)), .val (.ref bq562), .val (.ref t1), .val (.int (2 : Int32)), .val (.int (2 : Int32)), .val (.int y1)] [(.ref bq597)])) _
  refine own_retA X597 hx Bd.notSynchronized Bd.returns rfl rfl (hb hby eupn_d140) rfl (Nat.le_of_ble_eq_true rfl) (Nat.le_of_ble_eq_true rfl) ?_
  exact ⟨_, rfl, N597, own_ext KP599⟩
theorem encpn_d0 : decode jdk_42_method_18_code 0 = .ok (.aload_n 0, 1) := by decide +kernel
theorem encpn_d1 : decode jdk_42_method_18_code 1 = .ok (.getstatic 86, 3) := by decide +kernel
theorem encpn_d4 : decode jdk_42_method_18_code 4 = .ok (.if_acmp .ne 10, 3) := by decide +kernel
theorem encpn_d7 : decode jdk_42_method_18_code 7 = .ok (.iload_n 1, 1) := by decide +kernel
theorem encpn_d8 : decode jdk_42_method_18_code 8 = .ok (.aload_n 2, 1) := by decide +kernel
theorem encpn_d9 : decode jdk_42_method_18_code 9 = .ok (.iconst 1, 1) := by decide +kernel
theorem encpn_d10 : decode jdk_42_method_18_code 10 = .ok (.invokestatic 252, 3) := by decide +kernel
theorem encpn_d13 : decode jdk_42_method_18_code 13 = .ok (.areturn, 1) := by decide +kernel
theorem encpn_pn : plainName "java/lang/String" = true := by first | (simp [plainName, overriddenIn]; done) | decide +kernel
theorem encpn_pd0 : parseMethodDescriptor "(B[BZ)[B" = some ⟨[.byte, (.array .byte), .boolean], some (.array .byte)⟩ := by decide +kernel
theorem encpn_ef (m : MethodId) (x0 : Addr) (x1 : Int32) (x2 : Addr) : entryFrame m #[(.ref x0), (.int x1), (.ref x2)] 3 = mkF m 0 #[.val (.ref x0), .val (.int x1), .val (.ref x2)] [] := by first | (simp [entryFrame, mkF, argsToLocals, Value.category]; done) | rfl
set_option maxRecDepth 65536 in
set_option maxHeartbeats 40000000 in
theorem rm_encpn (l : Launch) (Z : State) (a0 : Array Value) (hw : ∀ d ∈ tables_1, d.before a0 Z = true) (ws : List Jvm.Cond) (t1 : Addr) (k1 : ClassId) (y0 : Int32) (y1 : Int32) (w8 : Addr) (h0 : Heap) (n0 : Nat) (Z0 : n0 ≤ h0.size) (OL : Old Z n0 h0) (V1 : Arv Z h0 t1 k1 .byte (2 : Int32) [.int y0, .int y1] (.int 0)) (X1 : Exa Z h0 t1 "[B") (s0 : ¬ y0 < 0) (s1 : y1 < 0) (SI : Sta Z Z.heap "sun/nio/cs/UTF_8" "INSTANCE" "Lsun/nio/cs/UTF_8;" (.ref w8)) :
    MetFree l (⟨"java/lang/String", "encode", "(Ljava/nio/charset/Charset;B[B)[B"⟩ : MethodName) (head1 (Jvm.Cond.code (⟨"java/lang/String", "encode", "(Ljava/nio/charset/Charset;B[B)[B"⟩ : MethodName) jdk_42_method_18_code 3 (some (.array .byte)) :: ws) ({ frames := 3, cells := 2, slots := 8, locals := 115 } : Room)) (fun a U => a = #[(.ref w8), (.int (0 : Int32)), (.ref t1)] ∧ Z.Warmed39 U.vm ∧ U.heap = h0) (fun _ _ _ _ _ => True) (fun _ U o U' => OwnEnd U (fun v h L => ∃ b, v = some (.ref b) ∧ Fr n0 L ∧ Ext h0 h) ({ frames := 3, cells := 2, slots := 8, locals := 115 } : Room).cells ({ frames := 3, cells := 2, slots := 8, locals := 115 } : Room).slots o U') := by
  refine MetFree.of_bodySF (plainFor_of_name encpn_pn) hisR ?_
  intro p e s m args below meth c s₁ Bd hml0 hP hK
  obtain ⟨rfl, hZ, hh⟩ := hP
  have hx := Bd.exec
  have hby := Bd.bytes
  have hml : c.maxLocals = 3 := hml0
  have hown : s.vm.findClass "java/lang/String" = some m.cls := findClass_of_methodNamed Bd.named
  have hnm := (name_of_methodNamed Bd.named Bd.method).1
  have X0 : Stand p l e ({ frames := 3, cells := 2, slots := 8, locals := 115 } : Room) s m #[(.ref w8), (.int (0 : Int32)), (.ref t1)] below meth c s₁ [] 0 0 := Stand.of_body Bd
  have e0 : s₁.heap = h0 := by rw [← hh, Bd.state]; rfl
  have N0 := Fr.nil n0
  have KP0 := Keep.refl h0 []
  refine own_go (Q := (OwnEnd s (fun v h L => ∃ b, v = some (.ref b) ∧ Fr n0 L ∧ Ext h0 h) ({ frames := 3, cells := 2, slots := 8, locals := 115 } : Room).cells ({ frames := 3, cells := 2, slots := 8, locals := 115 } : Room).slots)) ?_
  refine own_back (fun t k => castTop (encpn_ef m w8 (0 : Int32) t1) k) ?_
  show OwnGo p e below (s₁.setTop (mkF m 0 #[.val (.ref w8), .val (.int (0 : Int32)), .val (.ref t1)] [])) _
  refine own_back (fun t k => XS.aloadN X0.here hx rfl (hb hby encpn_d0) rfl rfl k) ?_
  show OwnGo p e below (s₁.setTop (mkF m 1 #[.val (.ref w8), .val (.int (0 : Int32)), .val (.ref t1)] [(.ref w8)])) _
  obtain ⟨T603, X603, e603, st603⟩ := getS2 X0 hx hZ hown (host := "") (Or.inl (hw _ (List.mem_of_getElem? (i := 63) rfl))) Via.refl e0 (SI.ext OL.2) (g := (mkF m 1 #[.val (.ref w8), .val (.int (0 : Int32)), .val (.ref t1)] [(.ref w8)])) rfl (hb hby encpn_d1)
  refine own_back st603 ?_
  show OwnGo p e below (T603.setTop (mkF m 4 #[.val (.ref w8), .val (.int (0 : Int32)), .val (.ref t1)] [(.ref w8), (.ref w8)])) _
  refine own_back (fun t k => Jvm.RoadKit.acmp (g := (mkF m 4 #[.val (.ref w8), .val (.int (0 : Int32)), .val (.ref t1)] [(.ref w8), (.ref w8)])) X603 hx rfl rfl rfl (pc0 := 4) (pc' := 7) (same := true) rfl (hb hby encpn_d4) rfl (decide_eq_true rfl) (by decide) (by decide) k) ?_
  show OwnGo p e below (T603.setTop (mkF m 7 #[.val (.ref w8), .val (.int (0 : Int32)), .val (.ref t1)] [])) _
  refine own_back (fun t k => XS.iloadN X603.here hx rfl (hb hby encpn_d7) rfl k) ?_
  show OwnGo p e below (T603.setTop (mkF m 8 #[.val (.ref w8), .val (.int (0 : Int32)), .val (.ref t1)] [(.int (0 : Int32))])) _
  refine own_back (fun t k => XS.aloadN X603.here hx rfl (hb hby encpn_d8) rfl rfl k) ?_
  show OwnGo p e below (T603.setTop (mkF m 9 #[.val (.ref w8), .val (.int (0 : Int32)), .val (.ref t1)] [(.ref t1), (.int (0 : Int32))])) _
  refine own_back (fun t k => XS.iconst X603.here hx rfl (hb hby encpn_d9) k) ?_
  show OwnGo p e below (T603.setTop (mkF m 10 #[.val (.ref w8), .val (.int (0 : Int32)), .val (.ref t1)] [(.int (1 : Int32)), (.ref t1), (.int (0 : Int32))])) _
  obtain ⟨_, _, ⟨T604, L604, k604, n604⟩, -, X604, ⟨Lc604, hQ604, l604, y604, z604⟩, st604⟩ := Jvm.LawKit.callS X603 hx (y := (⟨"java/lang/String", "encodeUTF8", "(B[BZ)[B"⟩ : MethodName)) hown (mvT hZ (hw _ (List.mem_of_getElem? (i := 65) rfl))) (mvT hZ (hw _ (List.mem_of_getElem? (i := 66) rfl))) (mvT hZ (hw _ (List.mem_of_getElem? (i := 6) rfl))) (mvT hZ (hw _ (List.mem_of_getElem? (i := 67) rfl))) (by decide) (own_backN (W := 0) (rm_eupn l Z a0 hw [] t1 k1 y0 y1 h0 n0 Z0 OL V1 X1 s0 s1) hZ (hw _ (List.mem_of_getElem? (i := 67) rfl)) (hw _ (List.mem_of_getElem? (i := 6) rfl)) (by decide) (by decide)) (g := (mkF m 10 #[.val (.ref w8), .val (.int (0 : Int32)), .val (.ref t1)] [(.int (1 : Int32)), (.ref t1), (.int (0 : Int32))])) rfl (by rw [hml]; rfl) (argsL := [(.int (0 : Int32)), (.ref t1), (.int (1 : Int32))]) (rest := []) (lenOf encpn_pd0 rfl) rfl (by show 2 * 0 + _ ≤ _; exact Nat.le_of_eq rfl) (hb hby encpn_d10) (fun _ _ => ⟨rfl, e603, Nat.le_of_ble_eq_true rfl, Nat.le_of_ble_eq_true rfl⟩)
  dsimp only [Pt.U, Pt.locs, Pt.cells, Pt.slots] at X604 l604 y604 z604 st604 hQ604
  subst l604 y604 z604
  obtain ⟨bq604, rfl, N604q, E604⟩ := hQ604
  refine own_back st604 ?_
  have N604 := Fr.app N0 N604q
  have O605 := OL.ext E604
  have KP606 := KP0.ext E604
  have Zs607 := Nat.le_trans Z0 E604.1
  have f608 := V1.ext E604
  show OwnGo p e below (T604.setTop (mkF m 13 #[.val (.ref w8), .val (.int (0 : Int32)), .val (.ref t1)] [(.ref bq604)])) _
  refine own_retA X604 hx Bd.notSynchronized Bd.returns rfl rfl (hb hby encpn_d13) rfl (Nat.le_of_ble_eq_true rfl) (Nat.le_of_ble_eq_true rfl) ?_
  exact ⟨_, rfl, N604, own_ext KP606⟩
theorem cppp_d0 : decode jdk_123_method_3_code 0 = .ok (.iload_n 1, 1) := by decide +kernel
theorem cppp_d1 : decode jdk_123_method_3_code 1 = .ok (.iload_n 2, 1) := by decide +kernel
theorem cppp_d2 : decode jdk_123_method_3_code 2 = .ok (.iadd, 1) := by decide +kernel
theorem cppp_d3 : decode jdk_123_method_3_code 3 = .ok (.istore_n 3, 1) := by decide +kernel
theorem cppp_d4 : decode jdk_123_method_3_code 4 = .ok (.iload_n 1, 1) := by decide +kernel
theorem cppp_d5 : decode jdk_123_method_3_code 5 = .ok (.istore 4, 2) := by decide +kernel
theorem cppp_d7 : decode jdk_123_method_3_code 7 = .ok (.iload 4, 2) := by decide +kernel
theorem cppp_d9 : decode jdk_123_method_3_code 9 = .ok (.iload_n 3, 1) := by decide +kernel
theorem cppp_d10 : decode jdk_123_method_3_code 10 = .ok (.if_icmp .ge 21, 3) := by decide +kernel
theorem cppp_d13 : decode jdk_123_method_3_code 13 = .ok (.aload_n 0, 1) := by decide +kernel
theorem cppp_d14 : decode jdk_123_method_3_code 14 = .ok (.iload 4, 2) := by decide +kernel
theorem cppp_d16 : decode jdk_123_method_3_code 16 = .ok (.baload, 1) := by decide +kernel
theorem cppp_d17 : decode jdk_123_method_3_code 17 = .ok (.ifCond .ge 8, 3) := by decide +kernel
theorem cppp_d25 : decode jdk_123_method_3_code 25 = .ok (.iinc 4 1, 3) := by decide +kernel
theorem cppp_d28 : decode jdk_123_method_3_code 28 = .ok (.goto (-21), 3) := by decide +kernel
theorem cppp_d31 : decode jdk_123_method_3_code 31 = .ok (.iload_n 2, 1) := by decide +kernel
theorem cppp_d32 : decode jdk_123_method_3_code 32 = .ok (.ireturn, 1) := by decide +kernel
theorem cppp_pn : plainName "java/lang/StringCoding" = true := by first | (simp [plainName, overriddenIn]; done) | decide +kernel
theorem cppp_ef (m : MethodId) (x0 : Addr) (x1 : Int32) (x2 : Int32) : entryFrame m #[(.ref x0), (.int x1), (.int x2)] 5 = mkF m 0 #[.val (.ref x0), .val (.int x1), .val (.int x2), .unset, .unset] [] := by first | (simp [entryFrame, mkF, argsToLocals, Value.category]; done) | rfl
set_option maxRecDepth 65536 in
set_option maxHeartbeats 40000000 in
theorem rm_cppp (l : Launch) (Z : State) (a0 : Array Value) (hw : ∀ d ∈ tables_1, d.before a0 Z = true) (ws : List Jvm.Cond) (t1 : Addr) (k1 : ClassId) (y0 : Int32) (y1 : Int32) (h0 : Heap) (n0 : Nat) (Z0 : n0 ≤ h0.size) (V1 : Arv Z h0 t1 k1 .byte (2 : Int32) [.int y0, .int y1] (.int 0)) (s0 : ¬ y0 < 0) (s1 : ¬ y1 < 0) :
    MetFree l (⟨"java/lang/StringCoding", "countPositives", "([BII)I"⟩ : MethodName) (head1 (Jvm.Cond.code (⟨"java/lang/StringCoding", "countPositives", "([BII)I"⟩ : MethodName) jdk_123_method_3_code 5 (some .int) :: ws) ({ frames := 0, cells := 0, slots := 0, locals := 0 } : Room)) (fun a U => a = #[(.ref t1), (.int (0 : Int32)), (.int (2 : Int32))] ∧ Z.Warmed39 U.vm ∧ U.heap = h0) (fun _ _ _ _ _ => True) (fun _ U o U' => OwnEnd U (fun v h L => v = some (.int (2 : Int32)) ∧ Fr n0 L ∧ h = h0) ({ frames := 0, cells := 0, slots := 0, locals := 0 } : Room).cells ({ frames := 0, cells := 0, slots := 0, locals := 0 } : Room).slots o U') := by
  refine MetFree.of_bodySF (plainFor_of_name cppp_pn) hisR ?_
  intro p e s m args below meth c s₁ Bd hml0 hP hK
  obtain ⟨rfl, hZ, hh⟩ := hP
  have hx := Bd.exec
  have hby := Bd.bytes
  have hml : c.maxLocals = 5 := hml0
  have hown : s.vm.findClass "java/lang/StringCoding" = some m.cls := findClass_of_methodNamed Bd.named
  have hnm := (name_of_methodNamed Bd.named Bd.method).1
  have X0 : Stand p l e ({ frames := 0, cells := 0, slots := 0, locals := 0 } : Room) s m #[(.ref t1), (.int (0 : Int32)), (.int (2 : Int32))] below meth c s₁ [] 0 0 := Stand.of_body Bd
  have e0 : s₁.heap = h0 := by rw [← hh, Bd.state]; rfl
  have N0 := Fr.nil n0
  have KP0 := Keep.refl h0 []
  refine own_go (Q := (OwnEnd s (fun v h L => v = some (.int (2 : Int32)) ∧ Fr n0 L ∧ h = h0) ({ frames := 0, cells := 0, slots := 0, locals := 0 } : Room).cells ({ frames := 0, cells := 0, slots := 0, locals := 0 } : Room).slots)) ?_
  refine own_back (fun t k => castTop (cppp_ef m t1 (0 : Int32) (2 : Int32)) k) ?_
  show OwnGo p e below (s₁.setTop (mkF m 0 #[.val (.ref t1), .val (.int (0 : Int32)), .val (.int (2 : Int32)), .unset, .unset] [])) _
  refine own_back (fun t k => XS.iloadN X0.here hx rfl (hb hby cppp_d0) rfl k) ?_
  show OwnGo p e below (s₁.setTop (mkF m 1 #[.val (.ref t1), .val (.int (0 : Int32)), .val (.int (2 : Int32)), .unset, .unset] [(.int (0 : Int32))])) _
  refine own_back (fun t k => XS.iloadN X0.here hx rfl (hb hby cppp_d1) rfl k) ?_
  show OwnGo p e below (s₁.setTop (mkF m 2 #[.val (.ref t1), .val (.int (0 : Int32)), .val (.int (2 : Int32)), .unset, .unset] [(.int (2 : Int32)), (.int (0 : Int32))])) _
  refine own_back (fun t k => XS.iadd X0.here hx rfl (hb hby cppp_d2) rfl k) ?_
  show OwnGo p e below (s₁.setTop (mkF m 3 #[.val (.ref t1), .val (.int (0 : Int32)), .val (.int (2 : Int32)), .unset, .unset] [(.int (2 : Int32))])) _
  refine own_back (fun t k => XS.istoreN X0.here hx rfl (hb hby cppp_d3) rfl (l' := #[.val (.ref t1), .val (.int (0 : Int32)), .val (.int (2 : Int32)), .val (.int (2 : Int32)), .unset]) rfl k) ?_
  show OwnGo p e below (s₁.setTop (mkF m 4 #[.val (.ref t1), .val (.int (0 : Int32)), .val (.int (2 : Int32)), .val (.int (2 : Int32)), .unset] [])) _
  refine own_back (fun t k => XS.iloadN X0.here hx rfl (hb hby cppp_d4) rfl k) ?_
  show OwnGo p e below (s₁.setTop (mkF m 5 #[.val (.ref t1), .val (.int (0 : Int32)), .val (.int (2 : Int32)), .val (.int (2 : Int32)), .unset] [(.int (0 : Int32))])) _
  refine own_back (fun t k => XS.istore X0.here hx rfl (hb hby cppp_d5) rfl (l' := #[.val (.ref t1), .val (.int (0 : Int32)), .val (.int (2 : Int32)), .val (.int (2 : Int32)), .val (.int (0 : Int32))]) rfl k) ?_
  show OwnGo p e below (s₁.setTop (mkF m 7 #[.val (.ref t1), .val (.int (0 : Int32)), .val (.int (2 : Int32)), .val (.int (2 : Int32)), .val (.int (0 : Int32))] [])) _
  refine own_back (fun t k => XS.iload X0.here hx rfl (hb hby cppp_d7) rfl k) ?_
  show OwnGo p e below (s₁.setTop (mkF m 9 #[.val (.ref t1), .val (.int (0 : Int32)), .val (.int (2 : Int32)), .val (.int (2 : Int32)), .val (.int (0 : Int32))] [(.int (0 : Int32))])) _
  refine own_back (fun t k => XS.iloadN X0.here hx rfl (hb hby cppp_d9) rfl k) ?_
  show OwnGo p e below (s₁.setTop (mkF m 10 #[.val (.ref t1), .val (.int (0 : Int32)), .val (.int (2 : Int32)), .val (.int (2 : Int32)), .val (.int (0 : Int32))] [(.int (2 : Int32)), (.int (0 : Int32))])) _
  refine own_back (fun t k => XS.icmpNo X0.here hx rfl (hb hby cppp_d10) rfl (Jvm.Free.XT.ii_ge_f (by decide)) k) ?_
  show OwnGo p e below (s₁.setTop (mkF m 13 #[.val (.ref t1), .val (.int (0 : Int32)), .val (.int (2 : Int32)), .val (.int (2 : Int32)), .val (.int (0 : Int32))] [])) _
  refine own_back (fun t k => XS.aloadN X0.here hx rfl (hb hby cppp_d13) rfl rfl k) ?_
  show OwnGo p e below (s₁.setTop (mkF m 14 #[.val (.ref t1), .val (.int (0 : Int32)), .val (.int (2 : Int32)), .val (.int (2 : Int32)), .val (.int (0 : Int32))] [(.ref t1)])) _
  refine own_back (fun t k => XS.iload X0.here hx rfl (hb hby cppp_d14) rfl k) ?_
  show OwnGo p e below (s₁.setTop (mkF m 16 #[.val (.ref t1), .val (.int (0 : Int32)), .val (.int (2 : Int32)), .val (.int (2 : Int32)), .val (.int (0 : Int32))] [(.int (0 : Int32)), (.ref t1)])) _
  obtain ⟨c609, A609, q609, S609, M609, H609, U609⟩ := id V1
  have ib610 : ¬ ((0 : Int32) < 0 ∨ c609.slots.size ≤ ((0 : Int32)).toNatClampNeg) := (inb_of S609 ⟨by decide, by decide⟩)
  refine own_back (fun t k => X0.baloadBytes hx (j := (0 : Int32)) (v := (.int y0)) (own_hat e0 A609.1) (State.isArrayOf_alike hZ.alike A609.2.1) A609.2.2 ib610 (H609.at ib610 rfl) (g := (mkF m 16 #[.val (.ref t1), .val (.int (0 : Int32)), .val (.int (2 : Int32)), .val (.int (2 : Int32)), .val (.int (0 : Int32))] [(.int (0 : Int32)), (.ref t1)])) rfl rfl (hb hby cppp_d16) t k) ?_
  show OwnGo p e below (s₁.setTop (mkF m 17 #[.val (.ref t1), .val (.int (0 : Int32)), .val (.int (2 : Int32)), .val (.int (2 : Int32)), .val (.int (0 : Int32))] [(.int y0)])) _
  refine own_back (fun t k => XS.ifYes X0.here hx rfl (pc0 := 17) (pc' := 25) rfl (hb hby cppp_d17) rfl (Jvm.Free.XT.i0_ge_t s0) (by decide) (by decide) k) ?_
  show OwnGo p e below (s₁.setTop (mkF m 25 #[.val (.ref t1), .val (.int (0 : Int32)), .val (.int (2 : Int32)), .val (.int (2 : Int32)), .val (.int (0 : Int32))] [])) _
  refine own_back (fun t k => XS.iinc X0.here hx rfl (hb hby cppp_d25) rfl (l' := #[.val (.ref t1), .val (.int (0 : Int32)), .val (.int (2 : Int32)), .val (.int (2 : Int32)), .val (.int (1 : Int32))]) rfl k) ?_
  show OwnGo p e below (s₁.setTop (mkF m 28 #[.val (.ref t1), .val (.int (0 : Int32)), .val (.int (2 : Int32)), .val (.int (2 : Int32)), .val (.int (1 : Int32))] [])) _
  refine own_back (fun t k => XS.goto X0.here hx rfl (pc0 := 28) (pc' := 7) rfl (hb hby cppp_d28) (by decide) (by decide) k) ?_
  show OwnGo p e below (s₁.setTop (mkF m 7 #[.val (.ref t1), .val (.int (0 : Int32)), .val (.int (2 : Int32)), .val (.int (2 : Int32)), .val (.int (1 : Int32))] [])) _
  refine own_back (fun t k => XS.iload X0.here hx rfl (hb hby cppp_d7) rfl k) ?_
  show OwnGo p e below (s₁.setTop (mkF m 9 #[.val (.ref t1), .val (.int (0 : Int32)), .val (.int (2 : Int32)), .val (.int (2 : Int32)), .val (.int (1 : Int32))] [(.int (1 : Int32))])) _
  refine own_back (fun t k => XS.iloadN X0.here hx rfl (hb hby cppp_d9) rfl k) ?_
  show OwnGo p e below (s₁.setTop (mkF m 10 #[.val (.ref t1), .val (.int (0 : Int32)), .val (.int (2 : Int32)), .val (.int (2 : Int32)), .val (.int (1 : Int32))] [(.int (2 : Int32)), (.int (1 : Int32))])) _
  refine own_back (fun t k => XS.icmpNo X0.here hx rfl (hb hby cppp_d10) rfl (Jvm.Free.XT.ii_ge_f (by decide)) k) ?_
  show OwnGo p e below (s₁.setTop (mkF m 13 #[.val (.ref t1), .val (.int (0 : Int32)), .val (.int (2 : Int32)), .val (.int (2 : Int32)), .val (.int (1 : Int32))] [])) _
  refine own_back (fun t k => XS.aloadN X0.here hx rfl (hb hby cppp_d13) rfl rfl k) ?_
  show OwnGo p e below (s₁.setTop (mkF m 14 #[.val (.ref t1), .val (.int (0 : Int32)), .val (.int (2 : Int32)), .val (.int (2 : Int32)), .val (.int (1 : Int32))] [(.ref t1)])) _
  refine own_back (fun t k => XS.iload X0.here hx rfl (hb hby cppp_d14) rfl k) ?_
  show OwnGo p e below (s₁.setTop (mkF m 16 #[.val (.ref t1), .val (.int (0 : Int32)), .val (.int (2 : Int32)), .val (.int (2 : Int32)), .val (.int (1 : Int32))] [(.int (1 : Int32)), (.ref t1)])) _
  obtain ⟨c611, A611, q611, S611, M611, H611, U611⟩ := id V1
  have ib612 : ¬ ((1 : Int32) < 0 ∨ c611.slots.size ≤ ((1 : Int32)).toNatClampNeg) := (inb_of S611 ⟨by decide, by decide⟩)
  refine own_back (fun t k => X0.baloadBytes hx (j := (1 : Int32)) (v := (.int y1)) (own_hat e0 A611.1) (State.isArrayOf_alike hZ.alike A611.2.1) A611.2.2 ib612 (H611.at ib612 rfl) (g := (mkF m 16 #[.val (.ref t1), .val (.int (0 : Int32)), .val (.int (2 : Int32)), .val (.int (2 : Int32)), .val (.int (1 : Int32))] [(.int (1 : Int32)), (.ref t1)])) rfl rfl (hb hby cppp_d16) t k) ?_
  show OwnGo p e below (s₁.setTop (mkF m 17 #[.val (.ref t1), .val (.int (0 : Int32)), .val (.int (2 : Int32)), .val (.int (2 : Int32)), .val (.int (1 : Int32))] [(.int y1)])) _
  refine own_back (fun t k => XS.ifYes X0.here hx rfl (pc0 := 17) (pc' := 25) rfl (hb hby cppp_d17) rfl (Jvm.Free.XT.i0_ge_t s1) (by decide) (by decide) k) ?_
  show OwnGo p e below (s₁.setTop (mkF m 25 #[.val (.ref t1), .val (.int (0 : Int32)), .val (.int (2 : Int32)), .val (.int (2 : Int32)), .val (.int (1 : Int32))] [])) _
  refine own_back (fun t k => XS.iinc X0.here hx rfl (hb hby cppp_d25) rfl (l' := #[.val (.ref t1), .val (.int (0 : Int32)), .val (.int (2 : Int32)), .val (.int (2 : Int32)), .val (.int (2 : Int32))]) rfl k) ?_
  show OwnGo p e below (s₁.setTop (mkF m 28 #[.val (.ref t1), .val (.int (0 : Int32)), .val (.int (2 : Int32)), .val (.int (2 : Int32)), .val (.int (2 : Int32))] [])) _
  refine own_back (fun t k => XS.goto X0.here hx rfl (pc0 := 28) (pc' := 7) rfl (hb hby cppp_d28) (by decide) (by decide) k) ?_
  show OwnGo p e below (s₁.setTop (mkF m 7 #[.val (.ref t1), .val (.int (0 : Int32)), .val (.int (2 : Int32)), .val (.int (2 : Int32)), .val (.int (2 : Int32))] [])) _
  refine own_back (fun t k => XS.iload X0.here hx rfl (hb hby cppp_d7) rfl k) ?_
  show OwnGo p e below (s₁.setTop (mkF m 9 #[.val (.ref t1), .val (.int (0 : Int32)), .val (.int (2 : Int32)), .val (.int (2 : Int32)), .val (.int (2 : Int32))] [(.int (2 : Int32))])) _
  refine own_back (fun t k => XS.iloadN X0.here hx rfl (hb hby cppp_d9) rfl k) ?_
  show OwnGo p e below (s₁.setTop (mkF m 10 #[.val (.ref t1), .val (.int (0 : Int32)), .val (.int (2 : Int32)), .val (.int (2 : Int32)), .val (.int (2 : Int32))] [(.int (2 : Int32)), (.int (2 : Int32))])) _
  refine own_back (fun t k => XS.icmpYes X0.here hx rfl (pc0 := 10) (pc' := 31) rfl (hb hby cppp_d10) rfl (Jvm.Free.XT.ii_ge_t (by decide)) (by decide) (by decide) k) ?_
  show OwnGo p e below (s₁.setTop (mkF m 31 #[.val (.ref t1), .val (.int (0 : Int32)), .val (.int (2 : Int32)), .val (.int (2 : Int32)), .val (.int (2 : Int32))] [])) _
  refine own_back (fun t k => XS.iloadN X0.here hx rfl (hb hby cppp_d31) rfl k) ?_
  show OwnGo p e below (s₁.setTop (mkF m 32 #[.val (.ref t1), .val (.int (0 : Int32)), .val (.int (2 : Int32)), .val (.int (2 : Int32)), .val (.int (2 : Int32))] [(.int (2 : Int32))])) _
  refine own_retI X0 hx Bd.notSynchronized Bd.returns (hb hby cppp_d32) e0 (Nat.le_of_ble_eq_true rfl) (Nat.le_of_ble_eq_true rfl) ?_
  exact ⟨rfl, N0, rfl⟩
theorem hnpp_d0 : decode jdk_123_method_2_code 0 = .ok (.aload_n 0, 1) := by decide +kernel
theorem hnpp_d1 : decode jdk_123_method_2_code 1 = .ok (.iload_n 1, 1) := by decide +kernel
theorem hnpp_d2 : decode jdk_123_method_2_code 2 = .ok (.iload_n 2, 1) := by decide +kernel
theorem hnpp_d3 : decode jdk_123_method_2_code 3 = .ok (.invokestatic 7, 3) := by decide +kernel
theorem hnpp_d6 : decode jdk_123_method_2_code 6 = .ok (.iload_n 2, 1) := by decide +kernel
theorem hnpp_d7 : decode jdk_123_method_2_code 7 = .ok (.if_icmp .eq 7, 3) := by decide +kernel
theorem hnpp_d14 : decode jdk_123_method_2_code 14 = .ok (.iconst 0, 1) := by decide +kernel
theorem hnpp_d15 : decode jdk_123_method_2_code 15 = .ok (.ireturn, 1) := by decide +kernel
theorem hnpp_pn : plainName "java/lang/StringCoding" = true := by first | (simp [plainName, overriddenIn]; done) | decide +kernel
theorem hnpp_pd0 : parseMethodDescriptor "([BII)I" = some ⟨[(.array .byte), .int, .int], some .int⟩ := by decide +kernel
theorem hnpp_ef (m : MethodId) (x0 : Addr) (x1 : Int32) (x2 : Int32) : entryFrame m #[(.ref x0), (.int x1), (.int x2)] 3 = mkF m 0 #[.val (.ref x0), .val (.int x1), .val (.int x2)] [] := by first | (simp [entryFrame, mkF, argsToLocals, Value.category]; done) | rfl
set_option maxRecDepth 65536 in
set_option maxHeartbeats 40000000 in
theorem rm_hnpp (l : Launch) (Z : State) (a0 : Array Value) (hw : ∀ d ∈ tables_1, d.before a0 Z = true) (ws : List Jvm.Cond) (t1 : Addr) (k1 : ClassId) (y0 : Int32) (y1 : Int32) (h0 : Heap) (n0 : Nat) (Z0 : n0 ≤ h0.size) (V1 : Arv Z h0 t1 k1 .byte (2 : Int32) [.int y0, .int y1] (.int 0)) (s0 : ¬ y0 < 0) (s1 : ¬ y1 < 0) :
    MetFree l (⟨"java/lang/StringCoding", "hasNegatives", "([BII)Z"⟩ : MethodName) (head1 (Jvm.Cond.code (⟨"java/lang/StringCoding", "hasNegatives", "([BII)Z"⟩ : MethodName) jdk_123_method_2_code 3 (some .boolean) :: ws) ({ frames := 1, cells := 0, slots := 0, locals := 20 } : Room)) (fun a U => a = #[(.ref t1), (.int (0 : Int32)), (.int (2 : Int32))] ∧ Z.Warmed39 U.vm ∧ U.heap = h0) (fun _ _ _ _ _ => True) (fun _ U o U' => OwnEnd U (fun v h L => v = some (.int (0 : Int32)) ∧ Fr n0 L ∧ h = h0) ({ frames := 1, cells := 0, slots := 0, locals := 20 } : Room).cells ({ frames := 1, cells := 0, slots := 0, locals := 20 } : Room).slots o U') := by
  refine MetFree.of_bodySF (plainFor_of_name hnpp_pn) hisR ?_
  intro p e s m args below meth c s₁ Bd hml0 hP hK
  obtain ⟨rfl, hZ, hh⟩ := hP
  have hx := Bd.exec
  have hby := Bd.bytes
  have hml : c.maxLocals = 3 := hml0
  have hown : s.vm.findClass "java/lang/StringCoding" = some m.cls := findClass_of_methodNamed Bd.named
  have hnm := (name_of_methodNamed Bd.named Bd.method).1
  have X0 : Stand p l e ({ frames := 1, cells := 0, slots := 0, locals := 20 } : Room) s m #[(.ref t1), (.int (0 : Int32)), (.int (2 : Int32))] below meth c s₁ [] 0 0 := Stand.of_body Bd
  have e0 : s₁.heap = h0 := by rw [← hh, Bd.state]; rfl
  have N0 := Fr.nil n0
  have KP0 := Keep.refl h0 []
  refine own_go (Q := (OwnEnd s (fun v h L => v = some (.int (0 : Int32)) ∧ Fr n0 L ∧ h = h0) ({ frames := 1, cells := 0, slots := 0, locals := 20 } : Room).cells ({ frames := 1, cells := 0, slots := 0, locals := 20 } : Room).slots)) ?_
  refine own_back (fun t k => castTop (hnpp_ef m t1 (0 : Int32) (2 : Int32)) k) ?_
  show OwnGo p e below (s₁.setTop (mkF m 0 #[.val (.ref t1), .val (.int (0 : Int32)), .val (.int (2 : Int32))] [])) _
  refine own_back (fun t k => XS.aloadN X0.here hx rfl (hb hby hnpp_d0) rfl rfl k) ?_
  show OwnGo p e below (s₁.setTop (mkF m 1 #[.val (.ref t1), .val (.int (0 : Int32)), .val (.int (2 : Int32))] [(.ref t1)])) _
  refine own_back (fun t k => XS.iloadN X0.here hx rfl (hb hby hnpp_d1) rfl k) ?_
  show OwnGo p e below (s₁.setTop (mkF m 2 #[.val (.ref t1), .val (.int (0 : Int32)), .val (.int (2 : Int32))] [(.int (0 : Int32)), (.ref t1)])) _
  refine own_back (fun t k => XS.iloadN X0.here hx rfl (hb hby hnpp_d2) rfl k) ?_
  show OwnGo p e below (s₁.setTop (mkF m 3 #[.val (.ref t1), .val (.int (0 : Int32)), .val (.int (2 : Int32))] [(.int (2 : Int32)), (.int (0 : Int32)), (.ref t1)])) _
  obtain ⟨_, _, ⟨T613, L613, k613, n613⟩, -, X613, ⟨Lc613, hQ613, l613, y613, z613⟩, st613⟩ := Jvm.LawKit.callS X0 hx (y := (⟨"java/lang/StringCoding", "countPositives", "([BII)I"⟩ : MethodName)) hown (mvT hZ (hw _ (List.mem_of_getElem? (i := 72) rfl))) (mvT hZ (hw _ (List.mem_of_getElem? (i := 73) rfl))) (mvT hZ (hw _ (List.mem_of_getElem? (i := 70) rfl))) (mvT hZ (hw _ (List.mem_of_getElem? (i := 74) rfl))) (by decide) (own_backN (W := 0) (rm_cppp l Z a0 hw [] t1 k1 y0 y1 h0 n0 Z0 V1 s0 s1) hZ (hw _ (List.mem_of_getElem? (i := 74) rfl)) (hw _ (List.mem_of_getElem? (i := 70) rfl)) (by decide) (by decide)) (g := (mkF m 3 #[.val (.ref t1), .val (.int (0 : Int32)), .val (.int (2 : Int32))] [(.int (2 : Int32)), (.int (0 : Int32)), (.ref t1)])) rfl (by rw [hml]; rfl) (argsL := [(.ref t1), (.int (0 : Int32)), (.int (2 : Int32))]) (rest := []) (lenOf hnpp_pd0 rfl) rfl (by show 2 * 0 + _ ≤ _; exact Nat.le_of_eq rfl) (hb hby hnpp_d3) (fun _ _ => ⟨rfl, e0, Nat.le_of_ble_eq_true rfl, Nat.le_of_ble_eq_true rfl⟩)
  dsimp only [Pt.U, Pt.locs, Pt.cells, Pt.slots] at X613 l613 y613 z613 st613 hQ613
  subst l613 y613 z613
  obtain ⟨rfl, N613q, hh613⟩ := hQ613
  refine own_back st613 ?_
  have N613 := Fr.app N0 N613q
  show OwnGo p e below (T613.setTop (mkF m 6 #[.val (.ref t1), .val (.int (0 : Int32)), .val (.int (2 : Int32))] [(.int (2 : Int32))])) _
  refine own_back (fun t k => XS.iloadN X613.here hx rfl (hb hby hnpp_d6) rfl k) ?_
  show OwnGo p e below (T613.setTop (mkF m 7 #[.val (.ref t1), .val (.int (0 : Int32)), .val (.int (2 : Int32))] [(.int (2 : Int32)), (.int (2 : Int32))])) _
  refine own_back (fun t k => XS.icmpYes X613.here hx rfl (pc0 := 7) (pc' := 14) rfl (hb hby hnpp_d7) rfl (Jvm.Free.XT.ii_eq_t (by decide)) (by decide) (by decide) k) ?_
  show OwnGo p e below (T613.setTop (mkF m 14 #[.val (.ref t1), .val (.int (0 : Int32)), .val (.int (2 : Int32))] [])) _
  refine own_back (fun t k => XS.iconst X613.here hx rfl (hb hby hnpp_d14) k) ?_
  show OwnGo p e below (T613.setTop (mkF m 15 #[.val (.ref t1), .val (.int (0 : Int32)), .val (.int (2 : Int32))] [(.int (0 : Int32))])) _
  refine own_retN X613 hx Bd.notSynchronized (t := .boolean) (z := (0 : Int32)) Bd.returns (by simp) rfl (hb hby hnpp_d15) hh613 (Nat.le_of_ble_eq_true rfl) (Nat.le_of_ble_eq_true rfl) ?_
  exact ⟨rfl, N613, rfl⟩
theorem eupp_d0 : decode jdk_42_method_46_code 0 = .ok (.iload_n 0, 1) := by decide +kernel
theorem eupp_d1 : decode jdk_42_method_46_code 1 = .ok (.iconst 1, 1) := by decide +kernel
theorem eupp_d2 : decode jdk_42_method_46_code 2 = .ok (.if_icmp .ne 9, 3) := by decide +kernel
theorem eupp_d11 : decode jdk_42_method_46_code 11 = .ok (.aload_n 1, 1) := by decide +kernel
theorem eupp_d12 : decode jdk_42_method_46_code 12 = .ok (.iconst 0, 1) := by decide +kernel
theorem eupp_d13 : decode jdk_42_method_46_code 13 = .ok (.aload_n 1, 1) := by decide +kernel
theorem eupp_d14 : decode jdk_42_method_46_code 14 = .ok (.arraylength, 1) := by decide +kernel
theorem eupp_d15 : decode jdk_42_method_46_code 15 = .ok (.invokestatic 128, 3) := by decide +kernel
theorem eupp_d18 : decode jdk_42_method_46_code 18 = .ok (.ifCond .ne 11, 3) := by decide +kernel
theorem eupp_d21 : decode jdk_42_method_46_code 21 = .ok (.aload_n 1, 1) := by decide +kernel
theorem eupp_d22 : decode jdk_42_method_46_code 22 = .ok (.invokevirtual 279, 3) := by decide +kernel
theorem eupp_d25 : decode jdk_42_method_46_code 25 = .ok (.checkcast 280, 3) := by decide +kernel
theorem eupp_d28 : decode jdk_42_method_46_code 28 = .ok (.areturn, 1) := by decide +kernel
theorem eupp_pn : plainName "java/lang/String" = true := by first | (simp [plainName, overriddenIn]; done) | decide +kernel
theorem eupp_pd0 : parseMethodDescriptor "([BII)Z" = some ⟨[(.array .byte), .int, .int], some .boolean⟩ := by decide +kernel
theorem eupp_ef (m : MethodId) (x0 : Int32) (x1 : Addr) (x2 : Int32) : entryFrame m #[(.int x0), (.ref x1), (.int x2)] 9 = mkF m 0 #[.val (.int x0), .val (.ref x1), .val (.int x2), .unset, .unset, .unset, .unset, .unset, .unset] [] := by first | (simp [entryFrame, mkF, argsToLocals, Value.category]; done) | rfl
set_option maxRecDepth 65536 in
set_option maxHeartbeats 40000000 in
theorem rm_eupp (l : Launch) (Z : State) (a0 : Array Value) (hw : ∀ d ∈ tables_1, d.before a0 Z = true) (ws : List Jvm.Cond) (t1 : Addr) (k1 : ClassId) (y0 : Int32) (y1 : Int32) (h0 : Heap) (n0 : Nat) (Z0 : n0 ≤ h0.size) (OL : Old Z n0 h0) (V1 : Arv Z h0 t1 k1 .byte (2 : Int32) [.int y0, .int y1] (.int 0)) (X1 : Exa Z h0 t1 "[B") (s0 : ¬ y0 < 0) (s1 : ¬ y1 < 0) :
    MetFree l (⟨"java/lang/String", "encodeUTF8", "(B[BZ)[B"⟩ : MethodName) (head1 (Jvm.Cond.code (⟨"java/lang/String", "encodeUTF8", "(B[BZ)[B"⟩ : MethodName) jdk_42_method_46_code 9 (some (.array .byte)) :: ws) ({ frames := 2, cells := 2, slots := 8, locals := 90 } : Room)) (fun a U => a = #[(.int (0 : Int32)), (.ref t1), (.int (1 : Int32))] ∧ Z.Warmed39 U.vm ∧ U.heap = h0) (fun _ _ _ _ _ => True) (fun _ U o U' => OwnEnd U (fun v h L => ∃ b, v = some (.ref b) ∧ Fr n0 L ∧ Ext h0 h) ({ frames := 2, cells := 2, slots := 8, locals := 90 } : Room).cells ({ frames := 2, cells := 2, slots := 8, locals := 90 } : Room).slots o U') := by
  refine MetFree.of_bodySF (plainFor_of_name eupp_pn) hisR ?_
  intro p e s m args below meth c s₁ Bd hml0 hP hK
  obtain ⟨rfl, hZ, hh⟩ := hP
  have hx := Bd.exec
  have hby := Bd.bytes
  have hml : c.maxLocals = 9 := hml0
  have hown : s.vm.findClass "java/lang/String" = some m.cls := findClass_of_methodNamed Bd.named
  have hnm := (name_of_methodNamed Bd.named Bd.method).1
  have X0 : Stand p l e ({ frames := 2, cells := 2, slots := 8, locals := 90 } : Room) s m #[(.int (0 : Int32)), (.ref t1), (.int (1 : Int32))] below meth c s₁ [] 0 0 := Stand.of_body Bd
  have e0 : s₁.heap = h0 := by rw [← hh, Bd.state]; rfl
  have N0 := Fr.nil n0
  have KP0 := Keep.refl h0 []
  refine own_go (Q := (OwnEnd s (fun v h L => ∃ b, v = some (.ref b) ∧ Fr n0 L ∧ Ext h0 h) ({ frames := 2, cells := 2, slots := 8, locals := 90 } : Room).cells ({ frames := 2, cells := 2, slots := 8, locals := 90 } : Room).slots)) ?_
  refine own_back (fun t k => castTop (eupp_ef m (0 : Int32) t1 (1 : Int32)) k) ?_
  show OwnGo p e below (s₁.setTop (mkF m 0 #[.val (.int (0 : Int32)), .val (.ref t1), .val (.int (1 : Int32)), .unset, .unset, .unset, .unset, .unset, .unset] [])) _
  refine own_back (fun t k => XS.iloadN X0.here hx rfl (hb hby eupp_d0) rfl k) ?_
  refine own_back (fun t k => XS.iconst X0.here hx rfl (hb hby eupp_d1) k) ?_
  refine own_back (fun t k => XS.icmpYes X0.here hx rfl (pc0 := 2) (pc' := 11) rfl (hb hby eupp_d2) rfl (Jvm.Free.XT.ii_ne_t (by decide)) (by decide) (by decide) k) ?_
  show OwnGo p e below (s₁.setTop (mkF m 11 #[.val (.int (0 : Int32)), .val (.ref t1), .val (.int (1 : Int32)), .unset, .unset, .unset, .unset, .unset, .unset] [])) _
  refine own_back (fun t k => XS.aloadN X0.here hx rfl (hb hby eupp_d11) rfl rfl k) ?_
  show OwnGo p e below (s₁.setTop (mkF m 12 #[.val (.int (0 : Int32)), .val (.ref t1), .val (.int (1 : Int32)), .unset, .unset, .unset, .unset, .unset, .unset] [(.ref t1)])) _
  refine own_back (fun t k => XS.iconst X0.here hx rfl (hb hby eupp_d12) k) ?_
  refine own_back (fun t k => XS.aloadN X0.here hx rfl (hb hby eupp_d13) rfl rfl k) ?_
  obtain ⟨c614, A614, q614, S614, M614, H614, U614⟩ := id V1
  refine own_back (fun t k => X0.arraylength hx (own_hat e0 A614.1) (State.isArrayOf_alike hZ.alike A614.2.1) (g := (mkF m 14 #[.val (.int (0 : Int32)), .val (.ref t1), .val (.int (1 : Int32)), .unset, .unset, .unset, .unset, .unset, .unset] [(.ref t1), (.int (0 : Int32)), (.ref t1)])) rfl rfl (hb hby eupp_d14) t k) ?_
  rw [len_of S614 M614]
  show OwnGo p e below (s₁.setTop (mkF m 15 #[.val (.int (0 : Int32)), .val (.ref t1), .val (.int (1 : Int32)), .unset, .unset, .unset, .unset, .unset, .unset] [(.int (2 : Int32)), (.int (0 : Int32)), (.ref t1)])) _
  obtain ⟨_, _, ⟨T615, L615, k615, n615⟩, -, X615, ⟨Lc615, hQ615, l615, y615, z615⟩, st615⟩ := Jvm.LawKit.callS X0 hx (y := (⟨"java/lang/StringCoding", "hasNegatives", "([BII)Z"⟩ : MethodName)) hown (mvT hZ (hw _ (List.mem_of_getElem? (i := 68) rfl))) (mvT hZ (hw _ (List.mem_of_getElem? (i := 69) rfl))) (mvT hZ (hw _ (List.mem_of_getElem? (i := 70) rfl))) (mvT hZ (hw _ (List.mem_of_getElem? (i := 71) rfl))) (by decide) (own_backN (W := 0) (rm_hnpp l Z a0 hw [] t1 k1 y0 y1 h0 n0 Z0 V1 s0 s1) hZ (hw _ (List.mem_of_getElem? (i := 71) rfl)) (hw _ (List.mem_of_getElem? (i := 70) rfl)) (by decide) (by decide)) (g := (mkF m 15 #[.val (.int (0 : Int32)), .val (.ref t1), .val (.int (1 : Int32)), .unset, .unset, .unset, .unset, .unset, .unset] [(.int (2 : Int32)), (.int (0 : Int32)), (.ref t1)])) rfl (by rw [hml]; rfl) (argsL := [(.ref t1), (.int (0 : Int32)), (.int (2 : Int32))]) (rest := []) (lenOf eupp_pd0 rfl) rfl (by show 2 * 0 + _ ≤ _; exact Nat.le_of_eq rfl) (hb hby eupp_d15) (fun _ _ => ⟨rfl, e0, Nat.le_of_ble_eq_true rfl, Nat.le_of_ble_eq_true rfl⟩)
  dsimp only [Pt.U, Pt.locs, Pt.cells, Pt.slots] at X615 l615 y615 z615 st615 hQ615
  subst l615 y615 z615
  obtain ⟨rfl, N615q, hh615⟩ := hQ615
  refine own_back st615 ?_
  have N615 := Fr.app N0 N615q
  show OwnGo p e below (T615.setTop (mkF m 18 #[.val (.int (0 : Int32)), .val (.ref t1), .val (.int (1 : Int32)), .unset, .unset, .unset, .unset, .unset, .unset] [(.int (0 : Int32))])) _
  refine own_back (fun t k => XS.ifNo X615.here hx rfl (hb hby eupp_d18) rfl (Jvm.Free.XT.i0_ne_f (by decide)) k) ?_
  show OwnGo p e below (T615.setTop (mkF m 21 #[.val (.int (0 : Int32)), .val (.ref t1), .val (.int (1 : Int32)), .unset, .unset, .unset, .unset, .unset, .unset] [])) _
  refine own_back (fun t k => XS.aloadN X615.here hx rfl (hb hby eupp_d21) rfl rfl k) ?_
  obtain ⟨cv, Av, qv, Sv, Mv, Hv, Uv⟩ := id V1
  obtain ⟨T616, h616, X616, e616, E616, A616, EX616, st616⟩ := cloneA X615 hx hZ hown (hw _ (List.mem_of_getElem? (i := 75) rfl)) (hw _ (List.mem_of_getElem? (i := 76) rfl)) (hw _ (List.mem_of_getElem? (i := 80) rfl)) (hw _ (List.mem_of_getElem? (i := 78) rfl)) (hw _ (List.mem_of_getElem? (i := 79) rfl)) (hw _ (List.mem_of_getElem? (i := 81) rfl)) hh615 Av X1 (own_fitB V1 Av.1) (g := (mkF m 22 #[.val (.int (0 : Int32)), .val (.ref t1), .val (.int (1 : Int32)), .unset, .unset, .unset, .unset, .unset, .unset] [(.ref t1)])) rfl (by rw [hml]; rfl) rfl (hb hby eupp_d22) (by decide) (W := 0) (cap := 2) (by show 2 * 0 + _ ≤ _; exact Nat.le_of_eq rfl) (by decide) (by rw [Sv]; decide) (Nat.le_of_ble_eq_true rfl) (Nat.le_of_ble_eq_true rfl)
  obtain ⟨b616, g616⟩ : ∃ z, z = h0.size := ⟨_, rfl⟩
  have ge617 : n0 ≤ b616 := Nat.le_trans Z0 (Nat.le_of_eq g616.symm)
  have sz618 : h0.size ≤ b616 := Nat.le_trans KP0.1 (Nat.le_of_eq g616.symm)
  rw [← g616] at A616 EX616 st616
  have O619 := OL.ext E616
  have KP620 := KP0.ext E616
  have Zs621 := Nat.le_trans Z0 E616.1
  have f622 := V1.ext E616
  refine own_back st616 ?_
  show OwnGo p e below (T616.setTop (mkF m 25 #[.val (.int (0 : Int32)), .val (.ref t1), .val (.int (1 : Int32)), .unset, .unset, .unset, .unset, .unset, .unset] [(.ref b616)])) _
  obtain ⟨T623, X623, e623, st623⟩ := castY X616 hx hZ hown (hw _ (List.mem_of_getElem? (i := 82) rfl)) e616 (Ins.self EX616) (g := (mkF m 25 #[.val (.int (0 : Int32)), .val (.ref t1), .val (.int (1 : Int32)), .unset, .unset, .unset, .unset, .unset, .unset] [(.ref b616)])) rfl rfl (hb hby eupp_d25)
  refine own_back st623 ?_
  refine own_retA X623 hx Bd.notSynchronized Bd.returns rfl rfl (hb hby eupp_d28) e623 (Nat.le_of_ble_eq_true rfl) (Nat.le_of_ble_eq_true rfl) ?_
  exact ⟨_, rfl, N615, own_ext KP620⟩
theorem encpp_d0 : decode jdk_42_method_18_code 0 = .ok (.aload_n 0, 1) := by decide +kernel
theorem encpp_d1 : decode jdk_42_method_18_code 1 = .ok (.getstatic 86, 3) := by decide +kernel
theorem encpp_d4 : decode jdk_42_method_18_code 4 = .ok (.if_acmp .ne 10, 3) := by decide +kernel
theorem encpp_d7 : decode jdk_42_method_18_code 7 = .ok (.iload_n 1, 1) := by decide +kernel
theorem encpp_d8 : decode jdk_42_method_18_code 8 = .ok (.aload_n 2, 1) := by decide +kernel
theorem encpp_d9 : decode jdk_42_method_18_code 9 = .ok (.iconst 1, 1) := by decide +kernel
theorem encpp_d10 : decode jdk_42_method_18_code 10 = .ok (.invokestatic 252, 3) := by decide +kernel
theorem encpp_d13 : decode jdk_42_method_18_code 13 = .ok (.areturn, 1) := by decide +kernel
theorem encpp_pn : plainName "java/lang/String" = true := by first | (simp [plainName, overriddenIn]; done) | decide +kernel
theorem encpp_pd0 : parseMethodDescriptor "(B[BZ)[B" = some ⟨[.byte, (.array .byte), .boolean], some (.array .byte)⟩ := by decide +kernel
theorem encpp_ef (m : MethodId) (x0 : Addr) (x1 : Int32) (x2 : Addr) : entryFrame m #[(.ref x0), (.int x1), (.ref x2)] 3 = mkF m 0 #[.val (.ref x0), .val (.int x1), .val (.ref x2)] [] := by first | (simp [entryFrame, mkF, argsToLocals, Value.category]; done) | rfl
set_option maxRecDepth 65536 in
set_option maxHeartbeats 40000000 in
theorem rm_encpp (l : Launch) (Z : State) (a0 : Array Value) (hw : ∀ d ∈ tables_1, d.before a0 Z = true) (ws : List Jvm.Cond) (t1 : Addr) (k1 : ClassId) (y0 : Int32) (y1 : Int32) (w8 : Addr) (h0 : Heap) (n0 : Nat) (Z0 : n0 ≤ h0.size) (OL : Old Z n0 h0) (V1 : Arv Z h0 t1 k1 .byte (2 : Int32) [.int y0, .int y1] (.int 0)) (X1 : Exa Z h0 t1 "[B") (s0 : ¬ y0 < 0) (s1 : ¬ y1 < 0) (SI : Sta Z Z.heap "sun/nio/cs/UTF_8" "INSTANCE" "Lsun/nio/cs/UTF_8;" (.ref w8)) :
    MetFree l (⟨"java/lang/String", "encode", "(Ljava/nio/charset/Charset;B[B)[B"⟩ : MethodName) (head1 (Jvm.Cond.code (⟨"java/lang/String", "encode", "(Ljava/nio/charset/Charset;B[B)[B"⟩ : MethodName) jdk_42_method_18_code 3 (some (.array .byte)) :: ws) ({ frames := 3, cells := 2, slots := 8, locals := 115 } : Room)) (fun a U => a = #[(.ref w8), (.int (0 : Int32)), (.ref t1)] ∧ Z.Warmed39 U.vm ∧ U.heap = h0) (fun _ _ _ _ _ => True) (fun _ U o U' => OwnEnd U (fun v h L => ∃ b, v = some (.ref b) ∧ Fr n0 L ∧ Ext h0 h) ({ frames := 3, cells := 2, slots := 8, locals := 115 } : Room).cells ({ frames := 3, cells := 2, slots := 8, locals := 115 } : Room).slots o U') := by
  refine MetFree.of_bodySF (plainFor_of_name encpp_pn) hisR ?_
  intro p e s m args below meth c s₁ Bd hml0 hP hK
  obtain ⟨rfl, hZ, hh⟩ := hP
  have hx := Bd.exec
  have hby := Bd.bytes
  have hml : c.maxLocals = 3 := hml0
  have hown : s.vm.findClass "java/lang/String" = some m.cls := findClass_of_methodNamed Bd.named
  have hnm := (name_of_methodNamed Bd.named Bd.method).1
  have X0 : Stand p l e ({ frames := 3, cells := 2, slots := 8, locals := 115 } : Room) s m #[(.ref w8), (.int (0 : Int32)), (.ref t1)] below meth c s₁ [] 0 0 := Stand.of_body Bd
  have e0 : s₁.heap = h0 := by rw [← hh, Bd.state]; rfl
  have N0 := Fr.nil n0
  have KP0 := Keep.refl h0 []
  refine own_go (Q := (OwnEnd s (fun v h L => ∃ b, v = some (.ref b) ∧ Fr n0 L ∧ Ext h0 h) ({ frames := 3, cells := 2, slots := 8, locals := 115 } : Room).cells ({ frames := 3, cells := 2, slots := 8, locals := 115 } : Room).slots)) ?_
  refine own_back (fun t k => castTop (encpp_ef m w8 (0 : Int32) t1) k) ?_
  show OwnGo p e below (s₁.setTop (mkF m 0 #[.val (.ref w8), .val (.int (0 : Int32)), .val (.ref t1)] [])) _
  refine own_back (fun t k => XS.aloadN X0.here hx rfl (hb hby encpp_d0) rfl rfl k) ?_
  show OwnGo p e below (s₁.setTop (mkF m 1 #[.val (.ref w8), .val (.int (0 : Int32)), .val (.ref t1)] [(.ref w8)])) _
  obtain ⟨T624, X624, e624, st624⟩ := getS2 X0 hx hZ hown (host := "") (Or.inl (hw _ (List.mem_of_getElem? (i := 63) rfl))) Via.refl e0 (SI.ext OL.2) (g := (mkF m 1 #[.val (.ref w8), .val (.int (0 : Int32)), .val (.ref t1)] [(.ref w8)])) rfl (hb hby encpp_d1)
  refine own_back st624 ?_
  show OwnGo p e below (T624.setTop (mkF m 4 #[.val (.ref w8), .val (.int (0 : Int32)), .val (.ref t1)] [(.ref w8), (.ref w8)])) _
  refine own_back (fun t k => Jvm.RoadKit.acmp (g := (mkF m 4 #[.val (.ref w8), .val (.int (0 : Int32)), .val (.ref t1)] [(.ref w8), (.ref w8)])) X624 hx rfl rfl rfl (pc0 := 4) (pc' := 7) (same := true) rfl (hb hby encpp_d4) rfl (decide_eq_true rfl) (by decide) (by decide) k) ?_
  show OwnGo p e below (T624.setTop (mkF m 7 #[.val (.ref w8), .val (.int (0 : Int32)), .val (.ref t1)] [])) _
  refine own_back (fun t k => XS.iloadN X624.here hx rfl (hb hby encpp_d7) rfl k) ?_
  show OwnGo p e below (T624.setTop (mkF m 8 #[.val (.ref w8), .val (.int (0 : Int32)), .val (.ref t1)] [(.int (0 : Int32))])) _
  refine own_back (fun t k => XS.aloadN X624.here hx rfl (hb hby encpp_d8) rfl rfl k) ?_
  show OwnGo p e below (T624.setTop (mkF m 9 #[.val (.ref w8), .val (.int (0 : Int32)), .val (.ref t1)] [(.ref t1), (.int (0 : Int32))])) _
  refine own_back (fun t k => XS.iconst X624.here hx rfl (hb hby encpp_d9) k) ?_
  show OwnGo p e below (T624.setTop (mkF m 10 #[.val (.ref w8), .val (.int (0 : Int32)), .val (.ref t1)] [(.int (1 : Int32)), (.ref t1), (.int (0 : Int32))])) _
  obtain ⟨_, _, ⟨T625, L625, k625, n625⟩, -, X625, ⟨Lc625, hQ625, l625, y625, z625⟩, st625⟩ := Jvm.LawKit.callS X624 hx (y := (⟨"java/lang/String", "encodeUTF8", "(B[BZ)[B"⟩ : MethodName)) hown (mvT hZ (hw _ (List.mem_of_getElem? (i := 65) rfl))) (mvT hZ (hw _ (List.mem_of_getElem? (i := 66) rfl))) (mvT hZ (hw _ (List.mem_of_getElem? (i := 6) rfl))) (mvT hZ (hw _ (List.mem_of_getElem? (i := 67) rfl))) (by decide) (own_backN (W := 0) (rm_eupp l Z a0 hw [] t1 k1 y0 y1 h0 n0 Z0 OL V1 X1 s0 s1) hZ (hw _ (List.mem_of_getElem? (i := 67) rfl)) (hw _ (List.mem_of_getElem? (i := 6) rfl)) (by decide) (by decide)) (g := (mkF m 10 #[.val (.ref w8), .val (.int (0 : Int32)), .val (.ref t1)] [(.int (1 : Int32)), (.ref t1), (.int (0 : Int32))])) rfl (by rw [hml]; rfl) (argsL := [(.int (0 : Int32)), (.ref t1), (.int (1 : Int32))]) (rest := []) (lenOf encpp_pd0 rfl) rfl (by show 2 * 0 + _ ≤ _; exact Nat.le_of_eq rfl) (hb hby encpp_d10) (fun _ _ => ⟨rfl, e624, Nat.le_of_ble_eq_true rfl, Nat.le_of_ble_eq_true rfl⟩)
  dsimp only [Pt.U, Pt.locs, Pt.cells, Pt.slots] at X625 l625 y625 z625 st625 hQ625
  subst l625 y625 z625
  obtain ⟨bq625, rfl, N625q, E625⟩ := hQ625
  refine own_back st625 ?_
  have N625 := Fr.app N0 N625q
  have O626 := OL.ext E625
  have KP627 := KP0.ext E625
  have Zs628 := Nat.le_trans Z0 E625.1
  have f629 := V1.ext E625
  show OwnGo p e below (T625.setTop (mkF m 13 #[.val (.ref w8), .val (.int (0 : Int32)), .val (.ref t1)] [(.ref bq625)])) _
  refine own_retA X625 hx Bd.notSynchronized Bd.returns rfl rfl (hb hby encpp_d13) rfl (Nat.le_of_ble_eq_true rfl) (Nat.le_of_ble_eq_true rfl) ?_
  exact ⟨_, rfl, N625, own_ext KP627⟩
theorem cod_d0 : decode jdk_42_method_152_code 0 = .ok (.getstatic 38, 3) := by decide +kernel
theorem cod_d3 : decode jdk_42_method_152_code 3 = .ok (.ifCond .eq 10, 3) := by decide +kernel
theorem cod_d6 : decode jdk_42_method_152_code 6 = .ok (.aload_n 0, 1) := by decide +kernel
theorem cod_d7 : decode jdk_42_method_152_code 7 = .ok (.getfield 15, 3) := by decide +kernel
theorem cod_d10 : decode jdk_42_method_152_code 10 = .ok (.goto 4, 3) := by decide +kernel
theorem cod_d14 : decode jdk_42_method_152_code 14 = .ok (.ireturn, 1) := by decide +kernel
theorem cod_pn : plainName "java/lang/String" = true := by first | (simp [plainName, overriddenIn]; done) | decide +kernel
theorem cod_ef (m : MethodId) (x0 : Addr) : entryFrame m #[(.ref x0)] 1 = mkF m 0 #[.val (.ref x0)] [] := by first | (simp [entryFrame, mkF, argsToLocals, Value.category]; done) | rfl
set_option maxRecDepth 65536 in
set_option maxHeartbeats 40000000 in
theorem rm_cod (l : Launch) (Z : State) (a0 : Array Value) (hw : ∀ d ∈ tables_1, d.before a0 Z = true) (ws : List Jvm.Cond) (a1 : Addr) (cz : Int32) (h0 : Heap) (n0 : Nat) (Z0 : n0 ≤ h0.size) (OL : Old Z n0 h0) (F1 : Fld Z h0 a1 "java/lang/String" "coder" "B" (.int 0)) (SC : Sta Z Z.heap "java/lang/String" "COMPACT_STRINGS" "Z" (.int cz)) (hcz : ¬ cz = 0) :
    MetFree l (⟨"java/lang/String", "coder", "()B"⟩ : MethodName) (head1 (Jvm.Cond.code (⟨"java/lang/String", "coder", "()B"⟩ : MethodName) jdk_42_method_152_code 1 (some .byte) :: ws) ({ frames := 0, cells := 0, slots := 0, locals := 0 } : Room)) (fun a U => a = #[(.ref a1)] ∧ Z.Warmed39 U.vm ∧ U.heap = h0) (fun _ _ _ _ _ => True) (fun _ U o U' => OwnEnd U (fun v h L => v = some (.int 0) ∧ Fr n0 L ∧ h = h0) ({ frames := 0, cells := 0, slots := 0, locals := 0 } : Room).cells ({ frames := 0, cells := 0, slots := 0, locals := 0 } : Room).slots o U') := by
  refine MetFree.of_bodySF (plainFor_of_name cod_pn) hisR ?_
  intro p e s m args below meth c s₁ Bd hml0 hP hK
  obtain ⟨rfl, hZ, hh⟩ := hP
  have hx := Bd.exec
  have hby := Bd.bytes
  have hml : c.maxLocals = 1 := hml0
  have hown : s.vm.findClass "java/lang/String" = some m.cls := findClass_of_methodNamed Bd.named
  have hnm := (name_of_methodNamed Bd.named Bd.method).1
  have X0 : Stand p l e ({ frames := 0, cells := 0, slots := 0, locals := 0 } : Room) s m #[(.ref a1)] below meth c s₁ [] 0 0 := Stand.of_body Bd
  have e0 : s₁.heap = h0 := by rw [← hh, Bd.state]; rfl
  have N0 := Fr.nil n0
  have KP0 := Keep.refl h0 []
  refine own_go (Q := (OwnEnd s (fun v h L => v = some (.int 0) ∧ Fr n0 L ∧ h = h0) ({ frames := 0, cells := 0, slots := 0, locals := 0 } : Room).cells ({ frames := 0, cells := 0, slots := 0, locals := 0 } : Room).slots)) ?_
  refine own_back (fun t k => castTop (cod_ef m a1) k) ?_
  show OwnGo p e below (s₁.setTop (mkF m 0 #[.val (.ref a1)] [])) _
  obtain ⟨T630, X630, e630, st630⟩ := getS2 X0 hx hZ hown (host := "") (Or.inl (hw _ (List.mem_of_getElem? (i := 59) rfl))) Via.refl e0 (SC.ext OL.2) (g := (mkF m 0 #[.val (.ref a1)] [])) rfl (hb hby cod_d0)
  refine own_back st630 ?_
  show OwnGo p e below (T630.setTop (mkF m 3 #[.val (.ref a1)] [(.int cz)])) _
  refine own_back (fun t k => XS.ifNo X630.here hx rfl (hb hby cod_d3) rfl (Jvm.Free.XT.i0_eq_f hcz) k) ?_
  show OwnGo p e below (T630.setTop (mkF m 6 #[.val (.ref a1)] [])) _
  refine own_back (fun t k => XS.aloadN X630.here hx rfl (hb hby cod_d6) rfl rfl k) ?_
  show OwnGo p e below (T630.setTop (mkF m 7 #[.val (.ref a1)] [(.ref a1)])) _
  obtain ⟨T631, X631, e631, st631⟩ := getF X630 hx hZ hown (host := "") (Or.inl (hw _ (List.mem_of_getElem? (i := 25) rfl))) Via.refl e630 F1 (g := (mkF m 7 #[.val (.ref a1)] [(.ref a1)])) rfl rfl (hb hby cod_d7)
  refine own_back st631 ?_
  show OwnGo p e below (T631.setTop (mkF m 10 #[.val (.ref a1)] [(.int (0 : Int32))])) _
  refine own_back (fun t k => XS.goto X631.here hx rfl (pc0 := 10) (pc' := 14) rfl (hb hby cod_d10) (by decide) (by decide) k) ?_
  show OwnGo p e below (T631.setTop (mkF m 14 #[.val (.ref a1)] [(.int (0 : Int32))])) _
  refine own_retN X631 hx Bd.notSynchronized (t := .byte) (z := (0 : Int32)) Bd.returns (by simp) rfl (hb hby cod_d14) e631 (Nat.le_of_ble_eq_true rfl) (Nat.le_of_ble_eq_true rfl) ?_
  exact ⟨rfl, N0, rfl⟩
theorem own_list2 (bs : List Int32) (h : bs.length ≤ 2) : bs = [] ∨ (∃ y0, bs = [y0]) ∨ (∃ y0 y1, bs = [y0, y1]) := by
  match bs, h with
  | [], _ => exact Or.inl rfl
  | [y0], _ => exact Or.inr (Or.inl ⟨y0, rfl⟩)
  | [y0, y1], _ => exact Or.inr (Or.inr ⟨y0, y1, rfl⟩)
theorem gb_d0 : decode jdk_42_method_64_code 0 = .ok (.aload_n 1, 1) := by decide +kernel
theorem gb_d1 : decode jdk_42_method_64_code 1 = .ok (.ifnonnull 11, 3) := by decide +kernel
theorem gb_d12 : decode jdk_42_method_64_code 12 = .ok (.aload_n 1, 1) := by decide +kernel
theorem gb_d13 : decode jdk_42_method_64_code 13 = .ok (.aload_n 0, 1) := by decide +kernel
theorem gb_d14 : decode jdk_42_method_64_code 14 = .ok (.invokevirtual 335, 3) := by decide +kernel
theorem gb_d17 : decode jdk_42_method_64_code 17 = .ok (.aload_n 0, 1) := by decide +kernel
theorem gb_d18 : decode jdk_42_method_64_code 18 = .ok (.getfield 9, 3) := by decide +kernel
theorem gb_d21 : decode jdk_42_method_64_code 21 = .ok (.invokestatic 535, 3) := by decide +kernel
theorem gb_d24 : decode jdk_42_method_64_code 24 = .ok (.areturn, 1) := by decide +kernel
theorem gb_pn : plainName "java/lang/String" = true := by first | (simp [plainName, overriddenIn]; done) | decide +kernel
theorem gb_pd0 : parseMethodDescriptor "()B" = some ⟨[], some .byte⟩ := by decide +kernel
theorem gb_pd1 : parseMethodDescriptor "(Ljava/nio/charset/Charset;B[B)[B" = some ⟨[(.object "java/nio/charset/Charset"), .byte, (.array .byte)], some (.array .byte)⟩ := by decide +kernel
theorem gb_ef (m : MethodId) (x0 : Addr) (x1 : Addr) : entryFrame m #[(.ref x0), (.ref x1)] 2 = mkF m 0 #[.val (.ref x0), .val (.ref x1)] [] := by first | (simp [entryFrame, mkF, argsToLocals, Value.category]; done) | rfl
set_option maxRecDepth 65536 in
set_option maxHeartbeats 40000000 in
theorem rm_gb (l : Launch) (Z : State) (a0 : Array Value) (hw : ∀ d ∈ tables_1, d.before a0 Z = true) (ws : List Jvm.Cond) (a1 : Addr) (bs : List Int32) (w8 : Addr) (cz : Int32) (h0 : Heap) (n0 : Nat) (Z0 : n0 ≤ h0.size) (OL : Old Z n0 h0) (B1 : OwnStr Z h0 a1 bs) (hb2 : bs.length ≤ 2) (SI : Sta Z Z.heap "sun/nio/cs/UTF_8" "INSTANCE" "Lsun/nio/cs/UTF_8;" (.ref w8)) (SC : Sta Z Z.heap "java/lang/String" "COMPACT_STRINGS" "Z" (.int cz)) (hcz : ¬ cz = 0) :
    MetFree l (⟨"java/lang/String", "getBytes", "(Ljava/nio/charset/Charset;)[B"⟩ : MethodName) (head1 (Jvm.Cond.code (⟨"java/lang/String", "getBytes", "(Ljava/nio/charset/Charset;)[B"⟩ : MethodName) jdk_42_method_64_code 2 (some (.array .byte)) :: ws) ({ frames := 4, cells := 2, slots := 8, locals := 135 } : Room)) (fun a U => a = #[(.ref a1), (.ref w8)] ∧ Z.Warmed39 U.vm ∧ U.heap = h0) (fun _ _ _ _ _ => True) (fun _ U o U' => OwnEnd U (fun v h L => ∃ b, v = some (.ref b) ∧ Fr n0 L ∧ Ext h0 h) ({ frames := 4, cells := 2, slots := 8, locals := 135 } : Room).cells ({ frames := 4, cells := 2, slots := 8, locals := 135 } : Room).slots o U') := by
  refine MetFree.of_bodySF (plainFor_of_name gb_pn) hisR ?_
  intro p e s m args below meth c s₁ Bd hml0 hP hK
  obtain ⟨rfl, hZ, hh⟩ := hP
  have hx := Bd.exec
  have hby := Bd.bytes
  have hml : c.maxLocals = 2 := hml0
  have hown : s.vm.findClass "java/lang/String" = some m.cls := findClass_of_methodNamed Bd.named
  have hnm := (name_of_methodNamed Bd.named Bd.method).1
  have X0 : Stand p l e ({ frames := 4, cells := 2, slots := 8, locals := 135 } : Room) s m #[(.ref a1), (.ref w8)] below meth c s₁ [] 0 0 := Stand.of_body Bd
  have e0 : s₁.heap = h0 := by rw [← hh, Bd.state]; rfl
  have N0 := Fr.nil n0
  have KP0 := Keep.refl h0 []
  refine own_go (Q := (OwnEnd s (fun v h L => ∃ b, v = some (.ref b) ∧ Fr n0 L ∧ Ext h0 h) ({ frames := 4, cells := 2, slots := 8, locals := 135 } : Room).cells ({ frames := 4, cells := 2, slots := 8, locals := 135 } : Room).slots)) ?_
  refine own_back (fun t k => castTop (gb_ef m a1 w8) k) ?_
  show OwnGo p e below (s₁.setTop (mkF m 0 #[.val (.ref a1), .val (.ref w8)] [])) _
  rcases own_list2 bs hb2 with rfl | ⟨y0, rfl⟩ | ⟨y0, y1, rfl⟩
  · obtain ⟨t1, k1, E1, C1, F1, V1, m1, X1⟩ := B1
    show OwnGo p e below (s₁.setTop (mkF m 0 #[.val (.ref a1), .val (.ref w8)] [])) _
    refine own_back (fun t k => XS.aloadN X0.here hx rfl (hb hby gb_d0) rfl rfl k) ?_
    show OwnGo p e below (s₁.setTop (mkF m 1 #[.val (.ref a1), .val (.ref w8)] [(.ref w8)])) _
    refine own_back (fun t k => XS.ifnonnullYes X0.here hx rfl (pc0 := 1) (pc' := 12) rfl (hb hby gb_d1) rfl (by decide) (by decide) k) ?_
    show OwnGo p e below (s₁.setTop (mkF m 12 #[.val (.ref a1), .val (.ref w8)] [])) _
    refine own_back (fun t k => XS.aloadN X0.here hx rfl (hb hby gb_d12) rfl rfl k) ?_
    show OwnGo p e below (s₁.setTop (mkF m 13 #[.val (.ref a1), .val (.ref w8)] [(.ref w8)])) _
    refine own_back (fun t k => XS.aloadN X0.here hx rfl (hb hby gb_d13) rfl rfl k) ?_
    show OwnGo p e below (s₁.setTop (mkF m 14 #[.val (.ref a1), .val (.ref w8)] [(.ref a1), (.ref w8)])) _
    obtain ⟨cq632, kq632, q632a, q632b, q632c⟩ := isOf hZ e0 E1
    obtain ⟨_, _, ⟨T632, L632, k632, n632⟩, -, X632, ⟨Lc632, hQ632, l632, y632, z632⟩, st632⟩ := X0.virtualBack hx (y := (⟨"java/lang/String", "coder", "()B"⟩ : MethodName)) (z := (⟨"java/lang/String", "coder", "()B"⟩ : MethodName)) hown (mvT hZ (hw _ (List.mem_of_getElem? (i := 54) rfl))) (mvT hZ (hw _ (List.mem_of_getElem? (i := 55) rfl))) (notFace_of_selects (args := #[]) (mvT hZ (hw _ (List.mem_of_getElem? (i := 57) rfl)))) (mvT hZ (hw _ (List.mem_of_getElem? (i := 57) rfl))) (mvT hZ (hw _ (List.mem_of_getElem? (i := 56) rfl))) (by decide) (own_backN (W := 1) (rm_cod l Z a0 hw [] a1 cz h0 n0 Z0 OL C1 SC hcz) hZ (hw _ (List.mem_of_getElem? (i := 58) rfl)) (hw _ (List.mem_of_getElem? (i := 6) rfl)) (by decide) (by decide)) q632a q632c (g := (mkF m 14 #[.val (.ref a1), .val (.ref w8)] [(.ref a1), (.ref w8)])) rfl (by rw [hml]; rfl) (Steps.refl _) (argsL := []) (rest := [(.ref w8)]) (lenOf gb_pd0 rfl) rfl (by show 2 * 0 + _ ≤ _; exact Nat.le_of_eq rfl) (hb hby gb_d14) (fun _ _ => ⟨rfl, e0, Nat.le_of_ble_eq_true rfl, Nat.le_of_ble_eq_true rfl⟩)
    dsimp only [Pt.U, Pt.locs, Pt.cells, Pt.slots] at X632 l632 y632 z632 st632 hQ632
    subst l632 y632 z632
    obtain ⟨rfl, N632q, hh632⟩ := hQ632
    refine own_seq st632 ?_
    have N632 := Fr.app N0 N632q
    show OwnGo p e below (T632.setTop (mkF m 17 #[.val (.ref a1), .val (.ref w8)] [(.int (0 : Int32)), (.ref w8)])) _
    refine own_back (fun t k => XS.aloadN X632.here hx rfl (hb hby gb_d17) rfl rfl k) ?_
    show OwnGo p e below (T632.setTop (mkF m 18 #[.val (.ref a1), .val (.ref w8)] [(.ref a1), (.int (0 : Int32)), (.ref w8)])) _
    obtain ⟨T633, X633, e633, st633⟩ := getF X632 hx hZ hown (host := "") (Or.inl (hw _ (List.mem_of_getElem? (i := 24) rfl))) Via.refl hh632 F1 (g := (mkF m 18 #[.val (.ref a1), .val (.ref w8)] [(.ref a1), (.int (0 : Int32)), (.ref w8)])) rfl rfl (hb hby gb_d18)
    refine own_back st633 ?_
    show OwnGo p e below (T633.setTop (mkF m 21 #[.val (.ref a1), .val (.ref w8)] [(.ref t1), (.int (0 : Int32)), (.ref w8)])) _
    obtain ⟨_, _, ⟨T634, L634, k634, n634⟩, -, X634, ⟨Lc634, hQ634, l634, y634, z634⟩, st634⟩ := Jvm.LawKit.callS X633 hx (y := (⟨"java/lang/String", "encode", "(Ljava/nio/charset/Charset;B[B)[B"⟩ : MethodName)) hown (mvT hZ (hw _ (List.mem_of_getElem? (i := 60) rfl))) (mvT hZ (hw _ (List.mem_of_getElem? (i := 61) rfl))) (mvT hZ (hw _ (List.mem_of_getElem? (i := 6) rfl))) (mvT hZ (hw _ (List.mem_of_getElem? (i := 62) rfl))) (by decide) (own_backN (W := 0) (rm_enc l Z a0 hw [] t1 k1 w8 h0 n0 Z0 OL V1 X1  SI) hZ (hw _ (List.mem_of_getElem? (i := 62) rfl)) (hw _ (List.mem_of_getElem? (i := 6) rfl)) (by decide) (by decide)) (g := (mkF m 21 #[.val (.ref a1), .val (.ref w8)] [(.ref t1), (.int (0 : Int32)), (.ref w8)])) rfl (by rw [hml]; rfl) (argsL := [(.ref w8), (.int (0 : Int32)), (.ref t1)]) (rest := []) (lenOf gb_pd1 rfl) rfl (by show 2 * 0 + _ ≤ _; exact Nat.le_of_eq rfl) (hb hby gb_d21) (fun _ _ => ⟨rfl, e633, Nat.le_of_ble_eq_true rfl, Nat.le_of_ble_eq_true rfl⟩)
    dsimp only [Pt.U, Pt.locs, Pt.cells, Pt.slots] at X634 l634 y634 z634 st634 hQ634
    subst l634 y634 z634
    obtain ⟨bq634, rfl, N634q, E634⟩ := hQ634
    refine own_back st634 ?_
    have N634 := Fr.app N632 N634q
    have O635 := OL.ext E634
    have KP636 := KP0.ext E634
    have Zs637 := Nat.le_trans Z0 E634.1
    have f638 := E1.ext E634
    have f639 := C1.ext E634
    have f640 := F1.ext E634
    show OwnGo p e below (T634.setTop (mkF m 24 #[.val (.ref a1), .val (.ref w8)] [(.ref bq634)])) _
    refine own_retA X634 hx Bd.notSynchronized Bd.returns rfl rfl (hb hby gb_d24) rfl (Nat.le_of_ble_eq_true rfl) (Nat.le_of_ble_eq_true rfl) ?_
    exact ⟨_, rfl, N634, own_ext KP636⟩
  · by_cases s0 : y0 < 0
    · obtain ⟨t1, k1, E1, C1, F1, V1, m1, X1⟩ := B1
      show OwnGo p e below (s₁.setTop (mkF m 0 #[.val (.ref a1), .val (.ref w8)] [])) _
      refine own_back (fun t k => XS.aloadN X0.here hx rfl (hb hby gb_d0) rfl rfl k) ?_
      show OwnGo p e below (s₁.setTop (mkF m 1 #[.val (.ref a1), .val (.ref w8)] [(.ref w8)])) _
      refine own_back (fun t k => XS.ifnonnullYes X0.here hx rfl (pc0 := 1) (pc' := 12) rfl (hb hby gb_d1) rfl (by decide) (by decide) k) ?_
      show OwnGo p e below (s₁.setTop (mkF m 12 #[.val (.ref a1), .val (.ref w8)] [])) _
      refine own_back (fun t k => XS.aloadN X0.here hx rfl (hb hby gb_d12) rfl rfl k) ?_
      show OwnGo p e below (s₁.setTop (mkF m 13 #[.val (.ref a1), .val (.ref w8)] [(.ref w8)])) _
      refine own_back (fun t k => XS.aloadN X0.here hx rfl (hb hby gb_d13) rfl rfl k) ?_
      show OwnGo p e below (s₁.setTop (mkF m 14 #[.val (.ref a1), .val (.ref w8)] [(.ref a1), (.ref w8)])) _
      obtain ⟨cq641, kq641, q641a, q641b, q641c⟩ := isOf hZ e0 E1
      obtain ⟨_, _, ⟨T641, L641, k641, n641⟩, -, X641, ⟨Lc641, hQ641, l641, y641, z641⟩, st641⟩ := X0.virtualBack hx (y := (⟨"java/lang/String", "coder", "()B"⟩ : MethodName)) (z := (⟨"java/lang/String", "coder", "()B"⟩ : MethodName)) hown (mvT hZ (hw _ (List.mem_of_getElem? (i := 54) rfl))) (mvT hZ (hw _ (List.mem_of_getElem? (i := 55) rfl))) (notFace_of_selects (args := #[]) (mvT hZ (hw _ (List.mem_of_getElem? (i := 57) rfl)))) (mvT hZ (hw _ (List.mem_of_getElem? (i := 57) rfl))) (mvT hZ (hw _ (List.mem_of_getElem? (i := 56) rfl))) (by decide) (own_backN (W := 1) (rm_cod l Z a0 hw [] a1 cz h0 n0 Z0 OL C1 SC hcz) hZ (hw _ (List.mem_of_getElem? (i := 58) rfl)) (hw _ (List.mem_of_getElem? (i := 6) rfl)) (by decide) (by decide)) q641a q641c (g := (mkF m 14 #[.val (.ref a1), .val (.ref w8)] [(.ref a1), (.ref w8)])) rfl (by rw [hml]; rfl) (Steps.refl _) (argsL := []) (rest := [(.ref w8)]) (lenOf gb_pd0 rfl) rfl (by show 2 * 0 + _ ≤ _; exact Nat.le_of_eq rfl) (hb hby gb_d14) (fun _ _ => ⟨rfl, e0, Nat.le_of_ble_eq_true rfl, Nat.le_of_ble_eq_true rfl⟩)
      dsimp only [Pt.U, Pt.locs, Pt.cells, Pt.slots] at X641 l641 y641 z641 st641 hQ641
      subst l641 y641 z641
      obtain ⟨rfl, N641q, hh641⟩ := hQ641
      refine own_seq st641 ?_
      have N641 := Fr.app N0 N641q
      show OwnGo p e below (T641.setTop (mkF m 17 #[.val (.ref a1), .val (.ref w8)] [(.int (0 : Int32)), (.ref w8)])) _
      refine own_back (fun t k => XS.aloadN X641.here hx rfl (hb hby gb_d17) rfl rfl k) ?_
      show OwnGo p e below (T641.setTop (mkF m 18 #[.val (.ref a1), .val (.ref w8)] [(.ref a1), (.int (0 : Int32)), (.ref w8)])) _
      obtain ⟨T642, X642, e642, st642⟩ := getF X641 hx hZ hown (host := "") (Or.inl (hw _ (List.mem_of_getElem? (i := 24) rfl))) Via.refl hh641 F1 (g := (mkF m 18 #[.val (.ref a1), .val (.ref w8)] [(.ref a1), (.int (0 : Int32)), (.ref w8)])) rfl rfl (hb hby gb_d18)
      refine own_back st642 ?_
      show OwnGo p e below (T642.setTop (mkF m 21 #[.val (.ref a1), .val (.ref w8)] [(.ref t1), (.int (0 : Int32)), (.ref w8)])) _
      obtain ⟨_, _, ⟨T643, L643, k643, n643⟩, -, X643, ⟨Lc643, hQ643, l643, y643, z643⟩, st643⟩ := Jvm.LawKit.callS X642 hx (y := (⟨"java/lang/String", "encode", "(Ljava/nio/charset/Charset;B[B)[B"⟩ : MethodName)) hown (mvT hZ (hw _ (List.mem_of_getElem? (i := 60) rfl))) (mvT hZ (hw _ (List.mem_of_getElem? (i := 61) rfl))) (mvT hZ (hw _ (List.mem_of_getElem? (i := 6) rfl))) (mvT hZ (hw _ (List.mem_of_getElem? (i := 62) rfl))) (by decide) (own_backN (W := 0) (rm_encn l Z a0 hw [] t1 k1 y0 w8 h0 n0 Z0 OL V1 X1 s0 SI) hZ (hw _ (List.mem_of_getElem? (i := 62) rfl)) (hw _ (List.mem_of_getElem? (i := 6) rfl)) (by decide) (by decide)) (g := (mkF m 21 #[.val (.ref a1), .val (.ref w8)] [(.ref t1), (.int (0 : Int32)), (.ref w8)])) rfl (by rw [hml]; rfl) (argsL := [(.ref w8), (.int (0 : Int32)), (.ref t1)]) (rest := []) (lenOf gb_pd1 rfl) rfl (by show 2 * 0 + _ ≤ _; exact Nat.le_of_eq rfl) (hb hby gb_d21) (fun _ _ => ⟨rfl, e642, Nat.le_of_ble_eq_true rfl, Nat.le_of_ble_eq_true rfl⟩)
      dsimp only [Pt.U, Pt.locs, Pt.cells, Pt.slots] at X643 l643 y643 z643 st643 hQ643
      subst l643 y643 z643
      obtain ⟨bq643, rfl, N643q, E643⟩ := hQ643
      refine own_back st643 ?_
      have N643 := Fr.app N641 N643q
      have O644 := OL.ext E643
      have KP645 := KP0.ext E643
      have Zs646 := Nat.le_trans Z0 E643.1
      have f647 := E1.ext E643
      have f648 := C1.ext E643
      have f649 := F1.ext E643
      show OwnGo p e below (T643.setTop (mkF m 24 #[.val (.ref a1), .val (.ref w8)] [(.ref bq643)])) _
      refine own_retA X643 hx Bd.notSynchronized Bd.returns rfl rfl (hb hby gb_d24) rfl (Nat.le_of_ble_eq_true rfl) (Nat.le_of_ble_eq_true rfl) ?_
      exact ⟨_, rfl, N643, own_ext KP645⟩
    · obtain ⟨t1, k1, E1, C1, F1, V1, m1, X1⟩ := B1
      show OwnGo p e below (s₁.setTop (mkF m 0 #[.val (.ref a1), .val (.ref w8)] [])) _
      refine own_back (fun t k => XS.aloadN X0.here hx rfl (hb hby gb_d0) rfl rfl k) ?_
      show OwnGo p e below (s₁.setTop (mkF m 1 #[.val (.ref a1), .val (.ref w8)] [(.ref w8)])) _
      refine own_back (fun t k => XS.ifnonnullYes X0.here hx rfl (pc0 := 1) (pc' := 12) rfl (hb hby gb_d1) rfl (by decide) (by decide) k) ?_
      show OwnGo p e below (s₁.setTop (mkF m 12 #[.val (.ref a1), .val (.ref w8)] [])) _
      refine own_back (fun t k => XS.aloadN X0.here hx rfl (hb hby gb_d12) rfl rfl k) ?_
      show OwnGo p e below (s₁.setTop (mkF m 13 #[.val (.ref a1), .val (.ref w8)] [(.ref w8)])) _
      refine own_back (fun t k => XS.aloadN X0.here hx rfl (hb hby gb_d13) rfl rfl k) ?_
      show OwnGo p e below (s₁.setTop (mkF m 14 #[.val (.ref a1), .val (.ref w8)] [(.ref a1), (.ref w8)])) _
      obtain ⟨cq650, kq650, q650a, q650b, q650c⟩ := isOf hZ e0 E1
      obtain ⟨_, _, ⟨T650, L650, k650, n650⟩, -, X650, ⟨Lc650, hQ650, l650, y650, z650⟩, st650⟩ := X0.virtualBack hx (y := (⟨"java/lang/String", "coder", "()B"⟩ : MethodName)) (z := (⟨"java/lang/String", "coder", "()B"⟩ : MethodName)) hown (mvT hZ (hw _ (List.mem_of_getElem? (i := 54) rfl))) (mvT hZ (hw _ (List.mem_of_getElem? (i := 55) rfl))) (notFace_of_selects (args := #[]) (mvT hZ (hw _ (List.mem_of_getElem? (i := 57) rfl)))) (mvT hZ (hw _ (List.mem_of_getElem? (i := 57) rfl))) (mvT hZ (hw _ (List.mem_of_getElem? (i := 56) rfl))) (by decide) (own_backN (W := 1) (rm_cod l Z a0 hw [] a1 cz h0 n0 Z0 OL C1 SC hcz) hZ (hw _ (List.mem_of_getElem? (i := 58) rfl)) (hw _ (List.mem_of_getElem? (i := 6) rfl)) (by decide) (by decide)) q650a q650c (g := (mkF m 14 #[.val (.ref a1), .val (.ref w8)] [(.ref a1), (.ref w8)])) rfl (by rw [hml]; rfl) (Steps.refl _) (argsL := []) (rest := [(.ref w8)]) (lenOf gb_pd0 rfl) rfl (by show 2 * 0 + _ ≤ _; exact Nat.le_of_eq rfl) (hb hby gb_d14) (fun _ _ => ⟨rfl, e0, Nat.le_of_ble_eq_true rfl, Nat.le_of_ble_eq_true rfl⟩)
      dsimp only [Pt.U, Pt.locs, Pt.cells, Pt.slots] at X650 l650 y650 z650 st650 hQ650
      subst l650 y650 z650
      obtain ⟨rfl, N650q, hh650⟩ := hQ650
      refine own_seq st650 ?_
      have N650 := Fr.app N0 N650q
      show OwnGo p e below (T650.setTop (mkF m 17 #[.val (.ref a1), .val (.ref w8)] [(.int (0 : Int32)), (.ref w8)])) _
      refine own_back (fun t k => XS.aloadN X650.here hx rfl (hb hby gb_d17) rfl rfl k) ?_
      show OwnGo p e below (T650.setTop (mkF m 18 #[.val (.ref a1), .val (.ref w8)] [(.ref a1), (.int (0 : Int32)), (.ref w8)])) _
      obtain ⟨T651, X651, e651, st651⟩ := getF X650 hx hZ hown (host := "") (Or.inl (hw _ (List.mem_of_getElem? (i := 24) rfl))) Via.refl hh650 F1 (g := (mkF m 18 #[.val (.ref a1), .val (.ref w8)] [(.ref a1), (.int (0 : Int32)), (.ref w8)])) rfl rfl (hb hby gb_d18)
      refine own_back st651 ?_
      show OwnGo p e below (T651.setTop (mkF m 21 #[.val (.ref a1), .val (.ref w8)] [(.ref t1), (.int (0 : Int32)), (.ref w8)])) _
      obtain ⟨_, _, ⟨T652, L652, k652, n652⟩, -, X652, ⟨Lc652, hQ652, l652, y652, z652⟩, st652⟩ := Jvm.LawKit.callS X651 hx (y := (⟨"java/lang/String", "encode", "(Ljava/nio/charset/Charset;B[B)[B"⟩ : MethodName)) hown (mvT hZ (hw _ (List.mem_of_getElem? (i := 60) rfl))) (mvT hZ (hw _ (List.mem_of_getElem? (i := 61) rfl))) (mvT hZ (hw _ (List.mem_of_getElem? (i := 6) rfl))) (mvT hZ (hw _ (List.mem_of_getElem? (i := 62) rfl))) (by decide) (own_backN (W := 0) (rm_encp l Z a0 hw [] t1 k1 y0 w8 h0 n0 Z0 OL V1 X1 s0 SI) hZ (hw _ (List.mem_of_getElem? (i := 62) rfl)) (hw _ (List.mem_of_getElem? (i := 6) rfl)) (by decide) (by decide)) (g := (mkF m 21 #[.val (.ref a1), .val (.ref w8)] [(.ref t1), (.int (0 : Int32)), (.ref w8)])) rfl (by rw [hml]; rfl) (argsL := [(.ref w8), (.int (0 : Int32)), (.ref t1)]) (rest := []) (lenOf gb_pd1 rfl) rfl (by show 2 * 0 + _ ≤ _; exact Nat.le_of_eq rfl) (hb hby gb_d21) (fun _ _ => ⟨rfl, e651, Nat.le_of_ble_eq_true rfl, Nat.le_of_ble_eq_true rfl⟩)
      dsimp only [Pt.U, Pt.locs, Pt.cells, Pt.slots] at X652 l652 y652 z652 st652 hQ652
      subst l652 y652 z652
      obtain ⟨bq652, rfl, N652q, E652⟩ := hQ652
      refine own_back st652 ?_
      have N652 := Fr.app N650 N652q
      have O653 := OL.ext E652
      have KP654 := KP0.ext E652
      have Zs655 := Nat.le_trans Z0 E652.1
      have f656 := E1.ext E652
      have f657 := C1.ext E652
      have f658 := F1.ext E652
      show OwnGo p e below (T652.setTop (mkF m 24 #[.val (.ref a1), .val (.ref w8)] [(.ref bq652)])) _
      refine own_retA X652 hx Bd.notSynchronized Bd.returns rfl rfl (hb hby gb_d24) rfl (Nat.le_of_ble_eq_true rfl) (Nat.le_of_ble_eq_true rfl) ?_
      exact ⟨_, rfl, N652, own_ext KP654⟩
  · by_cases s0 : y0 < 0
    · by_cases s1 : y1 < 0
      · obtain ⟨t1, k1, E1, C1, F1, V1, m1, X1⟩ := B1
        show OwnGo p e below (s₁.setTop (mkF m 0 #[.val (.ref a1), .val (.ref w8)] [])) _
        refine own_back (fun t k => XS.aloadN X0.here hx rfl (hb hby gb_d0) rfl rfl k) ?_
        show OwnGo p e below (s₁.setTop (mkF m 1 #[.val (.ref a1), .val (.ref w8)] [(.ref w8)])) _
        refine own_back (fun t k => XS.ifnonnullYes X0.here hx rfl (pc0 := 1) (pc' := 12) rfl (hb hby gb_d1) rfl (by decide) (by decide) k) ?_
        show OwnGo p e below (s₁.setTop (mkF m 12 #[.val (.ref a1), .val (.ref w8)] [])) _
        refine own_back (fun t k => XS.aloadN X0.here hx rfl (hb hby gb_d12) rfl rfl k) ?_
        show OwnGo p e below (s₁.setTop (mkF m 13 #[.val (.ref a1), .val (.ref w8)] [(.ref w8)])) _
        refine own_back (fun t k => XS.aloadN X0.here hx rfl (hb hby gb_d13) rfl rfl k) ?_
        show OwnGo p e below (s₁.setTop (mkF m 14 #[.val (.ref a1), .val (.ref w8)] [(.ref a1), (.ref w8)])) _
        obtain ⟨cq659, kq659, q659a, q659b, q659c⟩ := isOf hZ e0 E1
        obtain ⟨_, _, ⟨T659, L659, k659, n659⟩, -, X659, ⟨Lc659, hQ659, l659, y659, z659⟩, st659⟩ := X0.virtualBack hx (y := (⟨"java/lang/String", "coder", "()B"⟩ : MethodName)) (z := (⟨"java/lang/String", "coder", "()B"⟩ : MethodName)) hown (mvT hZ (hw _ (List.mem_of_getElem? (i := 54) rfl))) (mvT hZ (hw _ (List.mem_of_getElem? (i := 55) rfl))) (notFace_of_selects (args := #[]) (mvT hZ (hw _ (List.mem_of_getElem? (i := 57) rfl)))) (mvT hZ (hw _ (List.mem_of_getElem? (i := 57) rfl))) (mvT hZ (hw _ (List.mem_of_getElem? (i := 56) rfl))) (by decide) (own_backN (W := 1) (rm_cod l Z a0 hw [] a1 cz h0 n0 Z0 OL C1 SC hcz) hZ (hw _ (List.mem_of_getElem? (i := 58) rfl)) (hw _ (List.mem_of_getElem? (i := 6) rfl)) (by decide) (by decide)) q659a q659c (g := (mkF m 14 #[.val (.ref a1), .val (.ref w8)] [(.ref a1), (.ref w8)])) rfl (by rw [hml]; rfl) (Steps.refl _) (argsL := []) (rest := [(.ref w8)]) (lenOf gb_pd0 rfl) rfl (by show 2 * 0 + _ ≤ _; exact Nat.le_of_eq rfl) (hb hby gb_d14) (fun _ _ => ⟨rfl, e0, Nat.le_of_ble_eq_true rfl, Nat.le_of_ble_eq_true rfl⟩)
        dsimp only [Pt.U, Pt.locs, Pt.cells, Pt.slots] at X659 l659 y659 z659 st659 hQ659
        subst l659 y659 z659
        obtain ⟨rfl, N659q, hh659⟩ := hQ659
        refine own_seq st659 ?_
        have N659 := Fr.app N0 N659q
        show OwnGo p e below (T659.setTop (mkF m 17 #[.val (.ref a1), .val (.ref w8)] [(.int (0 : Int32)), (.ref w8)])) _
        refine own_back (fun t k => XS.aloadN X659.here hx rfl (hb hby gb_d17) rfl rfl k) ?_
        show OwnGo p e below (T659.setTop (mkF m 18 #[.val (.ref a1), .val (.ref w8)] [(.ref a1), (.int (0 : Int32)), (.ref w8)])) _
        obtain ⟨T660, X660, e660, st660⟩ := getF X659 hx hZ hown (host := "") (Or.inl (hw _ (List.mem_of_getElem? (i := 24) rfl))) Via.refl hh659 F1 (g := (mkF m 18 #[.val (.ref a1), .val (.ref w8)] [(.ref a1), (.int (0 : Int32)), (.ref w8)])) rfl rfl (hb hby gb_d18)
        refine own_back st660 ?_
        show OwnGo p e below (T660.setTop (mkF m 21 #[.val (.ref a1), .val (.ref w8)] [(.ref t1), (.int (0 : Int32)), (.ref w8)])) _
        obtain ⟨_, _, ⟨T661, L661, k661, n661⟩, -, X661, ⟨Lc661, hQ661, l661, y661, z661⟩, st661⟩ := Jvm.LawKit.callS X660 hx (y := (⟨"java/lang/String", "encode", "(Ljava/nio/charset/Charset;B[B)[B"⟩ : MethodName)) hown (mvT hZ (hw _ (List.mem_of_getElem? (i := 60) rfl))) (mvT hZ (hw _ (List.mem_of_getElem? (i := 61) rfl))) (mvT hZ (hw _ (List.mem_of_getElem? (i := 6) rfl))) (mvT hZ (hw _ (List.mem_of_getElem? (i := 62) rfl))) (by decide) (own_backN (W := 0) (rm_encnn l Z a0 hw [] t1 k1 y0 y1 w8 h0 n0 Z0 OL V1 X1 s0 s1 SI) hZ (hw _ (List.mem_of_getElem? (i := 62) rfl)) (hw _ (List.mem_of_getElem? (i := 6) rfl)) (by decide) (by decide)) (g := (mkF m 21 #[.val (.ref a1), .val (.ref w8)] [(.ref t1), (.int (0 : Int32)), (.ref w8)])) rfl (by rw [hml]; rfl) (argsL := [(.ref w8), (.int (0 : Int32)), (.ref t1)]) (rest := []) (lenOf gb_pd1 rfl) rfl (by show 2 * 0 + _ ≤ _; exact Nat.le_of_eq rfl) (hb hby gb_d21) (fun _ _ => ⟨rfl, e660, Nat.le_of_ble_eq_true rfl, Nat.le_of_ble_eq_true rfl⟩)
        dsimp only [Pt.U, Pt.locs, Pt.cells, Pt.slots] at X661 l661 y661 z661 st661 hQ661
        subst l661 y661 z661
        obtain ⟨bq661, rfl, N661q, E661⟩ := hQ661
        refine own_back st661 ?_
        have N661 := Fr.app N659 N661q
        have O662 := OL.ext E661
        have KP663 := KP0.ext E661
        have Zs664 := Nat.le_trans Z0 E661.1
        have f665 := E1.ext E661
        have f666 := C1.ext E661
        have f667 := F1.ext E661
        show OwnGo p e below (T661.setTop (mkF m 24 #[.val (.ref a1), .val (.ref w8)] [(.ref bq661)])) _
        refine own_retA X661 hx Bd.notSynchronized Bd.returns rfl rfl (hb hby gb_d24) rfl (Nat.le_of_ble_eq_true rfl) (Nat.le_of_ble_eq_true rfl) ?_
        exact ⟨_, rfl, N661, own_ext KP663⟩
      · obtain ⟨t1, k1, E1, C1, F1, V1, m1, X1⟩ := B1
        show OwnGo p e below (s₁.setTop (mkF m 0 #[.val (.ref a1), .val (.ref w8)] [])) _
        refine own_back (fun t k => XS.aloadN X0.here hx rfl (hb hby gb_d0) rfl rfl k) ?_
        show OwnGo p e below (s₁.setTop (mkF m 1 #[.val (.ref a1), .val (.ref w8)] [(.ref w8)])) _
        refine own_back (fun t k => XS.ifnonnullYes X0.here hx rfl (pc0 := 1) (pc' := 12) rfl (hb hby gb_d1) rfl (by decide) (by decide) k) ?_
        show OwnGo p e below (s₁.setTop (mkF m 12 #[.val (.ref a1), .val (.ref w8)] [])) _
        refine own_back (fun t k => XS.aloadN X0.here hx rfl (hb hby gb_d12) rfl rfl k) ?_
        show OwnGo p e below (s₁.setTop (mkF m 13 #[.val (.ref a1), .val (.ref w8)] [(.ref w8)])) _
        refine own_back (fun t k => XS.aloadN X0.here hx rfl (hb hby gb_d13) rfl rfl k) ?_
        show OwnGo p e below (s₁.setTop (mkF m 14 #[.val (.ref a1), .val (.ref w8)] [(.ref a1), (.ref w8)])) _
        obtain ⟨cq668, kq668, q668a, q668b, q668c⟩ := isOf hZ e0 E1
        obtain ⟨_, _, ⟨T668, L668, k668, n668⟩, -, X668, ⟨Lc668, hQ668, l668, y668, z668⟩, st668⟩ := X0.virtualBack hx (y := (⟨"java/lang/String", "coder", "()B"⟩ : MethodName)) (z := (⟨"java/lang/String", "coder", "()B"⟩ : MethodName)) hown (mvT hZ (hw _ (List.mem_of_getElem? (i := 54) rfl))) (mvT hZ (hw _ (List.mem_of_getElem? (i := 55) rfl))) (notFace_of_selects (args := #[]) (mvT hZ (hw _ (List.mem_of_getElem? (i := 57) rfl)))) (mvT hZ (hw _ (List.mem_of_getElem? (i := 57) rfl))) (mvT hZ (hw _ (List.mem_of_getElem? (i := 56) rfl))) (by decide) (own_backN (W := 1) (rm_cod l Z a0 hw [] a1 cz h0 n0 Z0 OL C1 SC hcz) hZ (hw _ (List.mem_of_getElem? (i := 58) rfl)) (hw _ (List.mem_of_getElem? (i := 6) rfl)) (by decide) (by decide)) q668a q668c (g := (mkF m 14 #[.val (.ref a1), .val (.ref w8)] [(.ref a1), (.ref w8)])) rfl (by rw [hml]; rfl) (Steps.refl _) (argsL := []) (rest := [(.ref w8)]) (lenOf gb_pd0 rfl) rfl (by show 2 * 0 + _ ≤ _; exact Nat.le_of_eq rfl) (hb hby gb_d14) (fun _ _ => ⟨rfl, e0, Nat.le_of_ble_eq_true rfl, Nat.le_of_ble_eq_true rfl⟩)
        dsimp only [Pt.U, Pt.locs, Pt.cells, Pt.slots] at X668 l668 y668 z668 st668 hQ668
        subst l668 y668 z668
        obtain ⟨rfl, N668q, hh668⟩ := hQ668
        refine own_seq st668 ?_
        have N668 := Fr.app N0 N668q
        show OwnGo p e below (T668.setTop (mkF m 17 #[.val (.ref a1), .val (.ref w8)] [(.int (0 : Int32)), (.ref w8)])) _
        refine own_back (fun t k => XS.aloadN X668.here hx rfl (hb hby gb_d17) rfl rfl k) ?_
        show OwnGo p e below (T668.setTop (mkF m 18 #[.val (.ref a1), .val (.ref w8)] [(.ref a1), (.int (0 : Int32)), (.ref w8)])) _
        obtain ⟨T669, X669, e669, st669⟩ := getF X668 hx hZ hown (host := "") (Or.inl (hw _ (List.mem_of_getElem? (i := 24) rfl))) Via.refl hh668 F1 (g := (mkF m 18 #[.val (.ref a1), .val (.ref w8)] [(.ref a1), (.int (0 : Int32)), (.ref w8)])) rfl rfl (hb hby gb_d18)
        refine own_back st669 ?_
        show OwnGo p e below (T669.setTop (mkF m 21 #[.val (.ref a1), .val (.ref w8)] [(.ref t1), (.int (0 : Int32)), (.ref w8)])) _
        obtain ⟨_, _, ⟨T670, L670, k670, n670⟩, -, X670, ⟨Lc670, hQ670, l670, y670, z670⟩, st670⟩ := Jvm.LawKit.callS X669 hx (y := (⟨"java/lang/String", "encode", "(Ljava/nio/charset/Charset;B[B)[B"⟩ : MethodName)) hown (mvT hZ (hw _ (List.mem_of_getElem? (i := 60) rfl))) (mvT hZ (hw _ (List.mem_of_getElem? (i := 61) rfl))) (mvT hZ (hw _ (List.mem_of_getElem? (i := 6) rfl))) (mvT hZ (hw _ (List.mem_of_getElem? (i := 62) rfl))) (by decide) (own_backN (W := 0) (rm_encnp l Z a0 hw [] t1 k1 y0 y1 w8 h0 n0 Z0 OL V1 X1 s0 s1 SI) hZ (hw _ (List.mem_of_getElem? (i := 62) rfl)) (hw _ (List.mem_of_getElem? (i := 6) rfl)) (by decide) (by decide)) (g := (mkF m 21 #[.val (.ref a1), .val (.ref w8)] [(.ref t1), (.int (0 : Int32)), (.ref w8)])) rfl (by rw [hml]; rfl) (argsL := [(.ref w8), (.int (0 : Int32)), (.ref t1)]) (rest := []) (lenOf gb_pd1 rfl) rfl (by show 2 * 0 + _ ≤ _; exact Nat.le_of_eq rfl) (hb hby gb_d21) (fun _ _ => ⟨rfl, e669, Nat.le_of_ble_eq_true rfl, Nat.le_of_ble_eq_true rfl⟩)
        dsimp only [Pt.U, Pt.locs, Pt.cells, Pt.slots] at X670 l670 y670 z670 st670 hQ670
        subst l670 y670 z670
        obtain ⟨bq670, rfl, N670q, E670⟩ := hQ670
        refine own_back st670 ?_
        have N670 := Fr.app N668 N670q
        have O671 := OL.ext E670
        have KP672 := KP0.ext E670
        have Zs673 := Nat.le_trans Z0 E670.1
        have f674 := E1.ext E670
        have f675 := C1.ext E670
        have f676 := F1.ext E670
        show OwnGo p e below (T670.setTop (mkF m 24 #[.val (.ref a1), .val (.ref w8)] [(.ref bq670)])) _
        refine own_retA X670 hx Bd.notSynchronized Bd.returns rfl rfl (hb hby gb_d24) rfl (Nat.le_of_ble_eq_true rfl) (Nat.le_of_ble_eq_true rfl) ?_
        exact ⟨_, rfl, N670, own_ext KP672⟩
    · by_cases s1 : y1 < 0
      · obtain ⟨t1, k1, E1, C1, F1, V1, m1, X1⟩ := B1
        show OwnGo p e below (s₁.setTop (mkF m 0 #[.val (.ref a1), .val (.ref w8)] [])) _
        refine own_back (fun t k => XS.aloadN X0.here hx rfl (hb hby gb_d0) rfl rfl k) ?_
        show OwnGo p e below (s₁.setTop (mkF m 1 #[.val (.ref a1), .val (.ref w8)] [(.ref w8)])) _
        refine own_back (fun t k => XS.ifnonnullYes X0.here hx rfl (pc0 := 1) (pc' := 12) rfl (hb hby gb_d1) rfl (by decide) (by decide) k) ?_
        show OwnGo p e below (s₁.setTop (mkF m 12 #[.val (.ref a1), .val (.ref w8)] [])) _
        refine own_back (fun t k => XS.aloadN X0.here hx rfl (hb hby gb_d12) rfl rfl k) ?_
        show OwnGo p e below (s₁.setTop (mkF m 13 #[.val (.ref a1), .val (.ref w8)] [(.ref w8)])) _
        refine own_back (fun t k => XS.aloadN X0.here hx rfl (hb hby gb_d13) rfl rfl k) ?_
        show OwnGo p e below (s₁.setTop (mkF m 14 #[.val (.ref a1), .val (.ref w8)] [(.ref a1), (.ref w8)])) _
        obtain ⟨cq677, kq677, q677a, q677b, q677c⟩ := isOf hZ e0 E1
        obtain ⟨_, _, ⟨T677, L677, k677, n677⟩, -, X677, ⟨Lc677, hQ677, l677, y677, z677⟩, st677⟩ := X0.virtualBack hx (y := (⟨"java/lang/String", "coder", "()B"⟩ : MethodName)) (z := (⟨"java/lang/String", "coder", "()B"⟩ : MethodName)) hown (mvT hZ (hw _ (List.mem_of_getElem? (i := 54) rfl))) (mvT hZ (hw _ (List.mem_of_getElem? (i := 55) rfl))) (notFace_of_selects (args := #[]) (mvT hZ (hw _ (List.mem_of_getElem? (i := 57) rfl)))) (mvT hZ (hw _ (List.mem_of_getElem? (i := 57) rfl))) (mvT hZ (hw _ (List.mem_of_getElem? (i := 56) rfl))) (by decide) (own_backN (W := 1) (rm_cod l Z a0 hw [] a1 cz h0 n0 Z0 OL C1 SC hcz) hZ (hw _ (List.mem_of_getElem? (i := 58) rfl)) (hw _ (List.mem_of_getElem? (i := 6) rfl)) (by decide) (by decide)) q677a q677c (g := (mkF m 14 #[.val (.ref a1), .val (.ref w8)] [(.ref a1), (.ref w8)])) rfl (by rw [hml]; rfl) (Steps.refl _) (argsL := []) (rest := [(.ref w8)]) (lenOf gb_pd0 rfl) rfl (by show 2 * 0 + _ ≤ _; exact Nat.le_of_eq rfl) (hb hby gb_d14) (fun _ _ => ⟨rfl, e0, Nat.le_of_ble_eq_true rfl, Nat.le_of_ble_eq_true rfl⟩)
        dsimp only [Pt.U, Pt.locs, Pt.cells, Pt.slots] at X677 l677 y677 z677 st677 hQ677
        subst l677 y677 z677
        obtain ⟨rfl, N677q, hh677⟩ := hQ677
        refine own_seq st677 ?_
        have N677 := Fr.app N0 N677q
        show OwnGo p e below (T677.setTop (mkF m 17 #[.val (.ref a1), .val (.ref w8)] [(.int (0 : Int32)), (.ref w8)])) _
        refine own_back (fun t k => XS.aloadN X677.here hx rfl (hb hby gb_d17) rfl rfl k) ?_
        show OwnGo p e below (T677.setTop (mkF m 18 #[.val (.ref a1), .val (.ref w8)] [(.ref a1), (.int (0 : Int32)), (.ref w8)])) _
        obtain ⟨T678, X678, e678, st678⟩ := getF X677 hx hZ hown (host := "") (Or.inl (hw _ (List.mem_of_getElem? (i := 24) rfl))) Via.refl hh677 F1 (g := (mkF m 18 #[.val (.ref a1), .val (.ref w8)] [(.ref a1), (.int (0 : Int32)), (.ref w8)])) rfl rfl (hb hby gb_d18)
        refine own_back st678 ?_
        show OwnGo p e below (T678.setTop (mkF m 21 #[.val (.ref a1), .val (.ref w8)] [(.ref t1), (.int (0 : Int32)), (.ref w8)])) _
        obtain ⟨_, _, ⟨T679, L679, k679, n679⟩, -, X679, ⟨Lc679, hQ679, l679, y679, z679⟩, st679⟩ := Jvm.LawKit.callS X678 hx (y := (⟨"java/lang/String", "encode", "(Ljava/nio/charset/Charset;B[B)[B"⟩ : MethodName)) hown (mvT hZ (hw _ (List.mem_of_getElem? (i := 60) rfl))) (mvT hZ (hw _ (List.mem_of_getElem? (i := 61) rfl))) (mvT hZ (hw _ (List.mem_of_getElem? (i := 6) rfl))) (mvT hZ (hw _ (List.mem_of_getElem? (i := 62) rfl))) (by decide) (own_backN (W := 0) (rm_encpn l Z a0 hw [] t1 k1 y0 y1 w8 h0 n0 Z0 OL V1 X1 s0 s1 SI) hZ (hw _ (List.mem_of_getElem? (i := 62) rfl)) (hw _ (List.mem_of_getElem? (i := 6) rfl)) (by decide) (by decide)) (g := (mkF m 21 #[.val (.ref a1), .val (.ref w8)] [(.ref t1), (.int (0 : Int32)), (.ref w8)])) rfl (by rw [hml]; rfl) (argsL := [(.ref w8), (.int (0 : Int32)), (.ref t1)]) (rest := []) (lenOf gb_pd1 rfl) rfl (by show 2 * 0 + _ ≤ _; exact Nat.le_of_eq rfl) (hb hby gb_d21) (fun _ _ => ⟨rfl, e678, Nat.le_of_ble_eq_true rfl, Nat.le_of_ble_eq_true rfl⟩)
        dsimp only [Pt.U, Pt.locs, Pt.cells, Pt.slots] at X679 l679 y679 z679 st679 hQ679
        subst l679 y679 z679
        obtain ⟨bq679, rfl, N679q, E679⟩ := hQ679
        refine own_back st679 ?_
        have N679 := Fr.app N677 N679q
        have O680 := OL.ext E679
        have KP681 := KP0.ext E679
        have Zs682 := Nat.le_trans Z0 E679.1
        have f683 := E1.ext E679
        have f684 := C1.ext E679
        have f685 := F1.ext E679
        show OwnGo p e below (T679.setTop (mkF m 24 #[.val (.ref a1), .val (.ref w8)] [(.ref bq679)])) _
        refine own_retA X679 hx Bd.notSynchronized Bd.returns rfl rfl (hb hby gb_d24) rfl (Nat.le_of_ble_eq_true rfl) (Nat.le_of_ble_eq_true rfl) ?_
        exact ⟨_, rfl, N679, own_ext KP681⟩
      · obtain ⟨t1, k1, E1, C1, F1, V1, m1, X1⟩ := B1
        show OwnGo p e below (s₁.setTop (mkF m 0 #[.val (.ref a1), .val (.ref w8)] [])) _
        refine own_back (fun t k => XS.aloadN X0.here hx rfl (hb hby gb_d0) rfl rfl k) ?_
        show OwnGo p e below (s₁.setTop (mkF m 1 #[.val (.ref a1), .val (.ref w8)] [(.ref w8)])) _
        refine own_back (fun t k => XS.ifnonnullYes X0.here hx rfl (pc0 := 1) (pc' := 12) rfl (hb hby gb_d1) rfl (by decide) (by decide) k) ?_
        show OwnGo p e below (s₁.setTop (mkF m 12 #[.val (.ref a1), .val (.ref w8)] [])) _
        refine own_back (fun t k => XS.aloadN X0.here hx rfl (hb hby gb_d12) rfl rfl k) ?_
        show OwnGo p e below (s₁.setTop (mkF m 13 #[.val (.ref a1), .val (.ref w8)] [(.ref w8)])) _
        refine own_back (fun t k => XS.aloadN X0.here hx rfl (hb hby gb_d13) rfl rfl k) ?_
        show OwnGo p e below (s₁.setTop (mkF m 14 #[.val (.ref a1), .val (.ref w8)] [(.ref a1), (.ref w8)])) _
        obtain ⟨cq686, kq686, q686a, q686b, q686c⟩ := isOf hZ e0 E1
        obtain ⟨_, _, ⟨T686, L686, k686, n686⟩, -, X686, ⟨Lc686, hQ686, l686, y686, z686⟩, st686⟩ := X0.virtualBack hx (y := (⟨"java/lang/String", "coder", "()B"⟩ : MethodName)) (z := (⟨"java/lang/String", "coder", "()B"⟩ : MethodName)) hown (mvT hZ (hw _ (List.mem_of_getElem? (i := 54) rfl))) (mvT hZ (hw _ (List.mem_of_getElem? (i := 55) rfl))) (notFace_of_selects (args := #[]) (mvT hZ (hw _ (List.mem_of_getElem? (i := 57) rfl)))) (mvT hZ (hw _ (List.mem_of_getElem? (i := 57) rfl))) (mvT hZ (hw _ (List.mem_of_getElem? (i := 56) rfl))) (by decide) (own_backN (W := 1) (rm_cod l Z a0 hw [] a1 cz h0 n0 Z0 OL C1 SC hcz) hZ (hw _ (List.mem_of_getElem? (i := 58) rfl)) (hw _ (List.mem_of_getElem? (i := 6) rfl)) (by decide) (by decide)) q686a q686c (g := (mkF m 14 #[.val (.ref a1), .val (.ref w8)] [(.ref a1), (.ref w8)])) rfl (by rw [hml]; rfl) (Steps.refl _) (argsL := []) (rest := [(.ref w8)]) (lenOf gb_pd0 rfl) rfl (by show 2 * 0 + _ ≤ _; exact Nat.le_of_eq rfl) (hb hby gb_d14) (fun _ _ => ⟨rfl, e0, Nat.le_of_ble_eq_true rfl, Nat.le_of_ble_eq_true rfl⟩)
        dsimp only [Pt.U, Pt.locs, Pt.cells, Pt.slots] at X686 l686 y686 z686 st686 hQ686
        subst l686 y686 z686
        obtain ⟨rfl, N686q, hh686⟩ := hQ686
        refine own_seq st686 ?_
        have N686 := Fr.app N0 N686q
        show OwnGo p e below (T686.setTop (mkF m 17 #[.val (.ref a1), .val (.ref w8)] [(.int (0 : Int32)), (.ref w8)])) _
        refine own_back (fun t k => XS.aloadN X686.here hx rfl (hb hby gb_d17) rfl rfl k) ?_
        show OwnGo p e below (T686.setTop (mkF m 18 #[.val (.ref a1), .val (.ref w8)] [(.ref a1), (.int (0 : Int32)), (.ref w8)])) _
        obtain ⟨T687, X687, e687, st687⟩ := getF X686 hx hZ hown (host := "") (Or.inl (hw _ (List.mem_of_getElem? (i := 24) rfl))) Via.refl hh686 F1 (g := (mkF m 18 #[.val (.ref a1), .val (.ref w8)] [(.ref a1), (.int (0 : Int32)), (.ref w8)])) rfl rfl (hb hby gb_d18)
        refine own_back st687 ?_
        show OwnGo p e below (T687.setTop (mkF m 21 #[.val (.ref a1), .val (.ref w8)] [(.ref t1), (.int (0 : Int32)), (.ref w8)])) _
        obtain ⟨_, _, ⟨T688, L688, k688, n688⟩, -, X688, ⟨Lc688, hQ688, l688, y688, z688⟩, st688⟩ := Jvm.LawKit.callS X687 hx (y := (⟨"java/lang/String", "encode", "(Ljava/nio/charset/Charset;B[B)[B"⟩ : MethodName)) hown (mvT hZ (hw _ (List.mem_of_getElem? (i := 60) rfl))) (mvT hZ (hw _ (List.mem_of_getElem? (i := 61) rfl))) (mvT hZ (hw _ (List.mem_of_getElem? (i := 6) rfl))) (mvT hZ (hw _ (List.mem_of_getElem? (i := 62) rfl))) (by decide) (own_backN (W := 0) (rm_encpp l Z a0 hw [] t1 k1 y0 y1 w8 h0 n0 Z0 OL V1 X1 s0 s1 SI) hZ (hw _ (List.mem_of_getElem? (i := 62) rfl)) (hw _ (List.mem_of_getElem? (i := 6) rfl)) (by decide) (by decide)) (g := (mkF m 21 #[.val (.ref a1), .val (.ref w8)] [(.ref t1), (.int (0 : Int32)), (.ref w8)])) rfl (by rw [hml]; rfl) (argsL := [(.ref w8), (.int (0 : Int32)), (.ref t1)]) (rest := []) (lenOf gb_pd1 rfl) rfl (by show 2 * 0 + _ ≤ _; exact Nat.le_of_eq rfl) (hb hby gb_d21) (fun _ _ => ⟨rfl, e687, Nat.le_of_ble_eq_true rfl, Nat.le_of_ble_eq_true rfl⟩)
        dsimp only [Pt.U, Pt.locs, Pt.cells, Pt.slots] at X688 l688 y688 z688 st688 hQ688
        subst l688 y688 z688
        obtain ⟨bq688, rfl, N688q, E688⟩ := hQ688
        refine own_back st688 ?_
        have N688 := Fr.app N686 N688q
        have O689 := OL.ext E688
        have KP690 := KP0.ext E688
        have Zs691 := Nat.le_trans Z0 E688.1
        have f692 := E1.ext E688
        have f693 := C1.ext E688
        have f694 := F1.ext E688
        show OwnGo p e below (T688.setTop (mkF m 24 #[.val (.ref a1), .val (.ref w8)] [(.ref bq688)])) _
        refine own_retA X688 hx Bd.notSynchronized Bd.returns rfl rfl (hb hby gb_d24) rfl (Nat.le_of_ble_eq_true rfl) (Nat.le_of_ble_eq_true rfl) ?_
        exact ⟨_, rfl, N688, own_ext KP690⟩
theorem rnn_d0 : decode jdk_31_method_11_code 0 = .ok (.aload_n 0, 1) := by decide +kernel
theorem rnn_d1 : decode jdk_31_method_11_code 1 = .ok (.ifnonnull 12, 3) := by decide +kernel
theorem rnn_d13 : decode jdk_31_method_11_code 13 = .ok (.aload_n 0, 1) := by decide +kernel
theorem rnn_d14 : decode jdk_31_method_11_code 14 = .ok (.areturn, 1) := by decide +kernel
theorem rnn_pn : plainName "java/util/Objects" = true := by first | (simp [plainName, overriddenIn]; done) | decide +kernel
theorem rnn_ef (m : MethodId) (x0 : Addr) (x1 : Addr) : entryFrame m #[(.ref x0), (.ref x1)] 2 = mkF m 0 #[.val (.ref x0), .val (.ref x1)] [] := by first | (simp [entryFrame, mkF, argsToLocals, Value.category]; done) | rfl
set_option maxRecDepth 65536 in
set_option maxHeartbeats 40000000 in
theorem rm_rnn (l : Launch) (Z : State) (a0 : Array Value) (hw : ∀ d ∈ tables_1, d.before a0 Z = true) (ws : List Jvm.Cond) (a1 : Addr) (a2 : Addr) (h0 : Heap) (n0 : Nat) (Z0 : n0 ≤ h0.size)  :
    MetFree l (⟨"java/util/Objects", "requireNonNull", "(Ljava/lang/Object;Ljava/lang/String;)Ljava/lang/Object;"⟩ : MethodName) (head1 (Jvm.Cond.code (⟨"java/util/Objects", "requireNonNull", "(Ljava/lang/Object;Ljava/lang/String;)Ljava/lang/Object;"⟩ : MethodName) jdk_31_method_11_code 2 (some (.object "java/lang/Object")) :: ws) ({ frames := 0, cells := 0, slots := 0, locals := 0 } : Room)) (fun a U => a = #[(.ref a1), (.ref a2)] ∧ Z.Warmed39 U.vm ∧ U.heap = h0) (fun _ _ _ _ _ => True) (fun _ U o U' => OwnEnd U (fun v h L => v = some (.ref a1) ∧ Fr n0 L ∧ h = h0) ({ frames := 0, cells := 0, slots := 0, locals := 0 } : Room).cells ({ frames := 0, cells := 0, slots := 0, locals := 0 } : Room).slots o U') := by
  refine MetFree.of_bodySF (plainFor_of_name rnn_pn) hisR ?_
  intro p e s m args below meth c s₁ Bd hml0 hP hK
  obtain ⟨rfl, hZ, hh⟩ := hP
  have hx := Bd.exec
  have hby := Bd.bytes
  have hml : c.maxLocals = 2 := hml0
  have hown : s.vm.findClass "java/util/Objects" = some m.cls := findClass_of_methodNamed Bd.named
  have hnm := (name_of_methodNamed Bd.named Bd.method).1
  have X0 : Stand p l e ({ frames := 0, cells := 0, slots := 0, locals := 0 } : Room) s m #[(.ref a1), (.ref a2)] below meth c s₁ [] 0 0 := Stand.of_body Bd
  have e0 : s₁.heap = h0 := by rw [← hh, Bd.state]; rfl
  have N0 := Fr.nil n0
  have KP0 := Keep.refl h0 []
  refine own_go (Q := (OwnEnd s (fun v h L => v = some (.ref a1) ∧ Fr n0 L ∧ h = h0) ({ frames := 0, cells := 0, slots := 0, locals := 0 } : Room).cells ({ frames := 0, cells := 0, slots := 0, locals := 0 } : Room).slots)) ?_
  refine own_back (fun t k => castTop (rnn_ef m a1 a2) k) ?_
  show OwnGo p e below (s₁.setTop (mkF m 0 #[.val (.ref a1), .val (.ref a2)] [])) _
  refine own_back (fun t k => XS.aloadN X0.here hx rfl (hb hby rnn_d0) rfl rfl k) ?_
  show OwnGo p e below (s₁.setTop (mkF m 1 #[.val (.ref a1), .val (.ref a2)] [(.ref a1)])) _
  refine own_back (fun t k => XS.ifnonnullYes X0.here hx rfl (pc0 := 1) (pc' := 13) rfl (hb hby rnn_d1) rfl (by decide) (by decide) k) ?_
  show OwnGo p e below (s₁.setTop (mkF m 13 #[.val (.ref a1), .val (.ref a2)] [])) _
  refine own_back (fun t k => XS.aloadN X0.here hx rfl (hb hby rnn_d13) rfl rfl k) ?_
  show OwnGo p e below (s₁.setTop (mkF m 14 #[.val (.ref a1), .val (.ref a2)] [(.ref a1)])) _
  refine own_retA X0 hx Bd.notSynchronized Bd.returns rfl rfl (hb hby rnn_d14) e0 (Nat.le_of_ble_eq_true rfl) (Nat.le_of_ble_eq_true rfl) ?_
  exact ⟨rfl, N0, rfl⟩
theorem ini_d0 : decode prog_22_method_1_code 0 = .ok (.aload_n 0, 1) := by decide +kernel
theorem ini_d1 : decode prog_22_method_1_code 1 = .ok (.invokespecial 1, 3) := by decide +kernel
theorem ini_d4 : decode prog_22_method_1_code 4 = .ok (.aload_n 0, 1) := by decide +kernel
theorem ini_d5 : decode prog_22_method_1_code 5 = .ok (.aload_n 1, 1) := by decide +kernel
theorem ini_d6 : decode prog_22_method_1_code 6 = .ok (.ldc 7, 2) := by decide +kernel
theorem ini_d8 : decode prog_22_method_1_code 8 = .ok (.invokestatic 9, 3) := by decide +kernel
theorem ini_d11 : decode prog_22_method_1_code 11 = .ok (.checkcast 15, 3) := by decide +kernel
theorem ini_d14 : decode prog_22_method_1_code 14 = .ok (.putfield 17, 3) := by decide +kernel
theorem ini_d17 : decode prog_22_method_1_code 17 = .ok (.aload_n 0, 1) := by decide +kernel
theorem ini_d18 : decode prog_22_method_1_code 18 = .ok (.aload_n 1, 1) := by decide +kernel
theorem ini_d19 : decode prog_22_method_1_code 19 = .ok (.getstatic 22, 3) := by decide +kernel
theorem ini_d22 : decode prog_22_method_1_code 22 = .ok (.invokevirtual 28, 3) := by decide +kernel
theorem ini_d25 : decode prog_22_method_1_code 25 = .ok (.putfield 32, 3) := by decide +kernel
theorem ini_d28 : decode prog_22_method_1_code 28 = .ok (.aload_n 0, 1) := by decide +kernel
theorem ini_d29 : decode prog_22_method_1_code 29 = .ok (.aload_n 2, 1) := by decide +kernel
theorem ini_d30 : decode prog_22_method_1_code 30 = .ok (.ldc 36, 2) := by decide +kernel
theorem ini_d32 : decode prog_22_method_1_code 32 = .ok (.invokestatic 9, 3) := by decide +kernel
theorem ini_d35 : decode prog_22_method_1_code 35 = .ok (.checkcast 38, 3) := by decide +kernel
theorem ini_d38 : decode prog_22_method_1_code 38 = .ok (.putfield 40, 3) := by decide +kernel
theorem ini_d41 : decode prog_22_method_1_code 41 = .ok (.aload_n 0, 1) := by decide +kernel
theorem ini_d42 : decode prog_22_method_1_code 42 = .ok (.lload_n 3, 1) := by decide +kernel
theorem ini_d43 : decode prog_22_method_1_code 43 = .ok (.putfield 43, 3) := by decide +kernel
theorem ini_d46 : decode prog_22_method_1_code 46 = .ok (.return_, 1) := by decide +kernel
theorem ini_pn : plainName "com/example/lease/lease/OwnerCount" = true := by first | (simp [plainName, overriddenIn]; done) | decide +kernel
theorem ini_pd0 : parseMethodDescriptor "(Ljava/lang/Object;Ljava/lang/String;)Ljava/lang/Object;" = some ⟨[(.object "java/lang/Object"), (.object "java/lang/String")], some (.object "java/lang/Object")⟩ := by decide +kernel
theorem ini_pd1 : parseMethodDescriptor "(Ljava/nio/charset/Charset;)[B" = some ⟨[(.object "java/nio/charset/Charset")], some (.array .byte)⟩ := by decide +kernel
theorem ini_ef (m : MethodId) (x0 : Addr) (x1 : Addr) (x2 : Addr) (x3 : Int64) : entryFrame m #[(.ref x0), (.ref x1), (.ref x2), (.long x3)] 5 = mkF m 0 #[.val (.ref x0), .val (.ref x1), .val (.ref x2), .val (.long x3), .second] [] := by first | (simp [entryFrame, mkF, argsToLocals, Value.category]; done) | rfl
set_option maxRecDepth 65536 in
set_option maxHeartbeats 40000000 in
theorem rm_ini (l : Launch) (Z : State) (a0 : Array Value) (hw : ∀ d ∈ tables_1, d.before a0 Z = true) (ws : List Jvm.Cond) (a1 : Addr) (a2 : Addr) (wq : Addr) (nq : Int64) (bs : List Int32) (w8 : Addr) (cz : Int32) (h0 : Heap) (n0 : Nat) (Z0 : n0 ≤ h0.size) (OL : Old Z n0 h0) (E1 : Exa Z h0 a1 "com/example/lease/lease/OwnerCount") (G0 : Fld Z h0 a1 "com/example/lease/lease/OwnerCount" "owner" "Ljava/lang/String;" .null) (G1 : Fld Z h0 a1 "com/example/lease/lease/OwnerCount" "ownerUtf8" "[B" .null) (G2 : Fld Z h0 a1 "com/example/lease/lease/OwnerCount" "status" "Lcom/example/lease/lease/PartitionStatus;" .null) (G3 : Fld Z h0 a1 "com/example/lease/lease/OwnerCount" "count" "J" (.long 0)) (g1 : n0 ≤ a1) (B2 : OwnStr Z h0 a2 bs) (hb2 : bs.length ≤ 2) (EQ : Exa Z Z.heap wq "com/example/lease/lease/PartitionStatus") (SU : Sta Z Z.heap "java/nio/charset/StandardCharsets" "UTF_8" "Ljava/nio/charset/Charset;" (.ref w8)) (SI : Sta Z Z.heap "sun/nio/cs/UTF_8" "INSTANCE" "Lsun/nio/cs/UTF_8;" (.ref w8)) (SC : Sta Z Z.heap "java/lang/String" "COMPACT_STRINGS" "Z" (.int cz)) (hcz : ¬ cz = 0) :
    MetFree l (⟨"com/example/lease/lease/OwnerCount", "<init>", "(Ljava/lang/String;Lcom/example/lease/lease/PartitionStatus;J)V"⟩ : MethodName) (head1 (Jvm.Cond.code (⟨"com/example/lease/lease/OwnerCount", "<init>", "(Ljava/lang/String;Lcom/example/lease/lease/PartitionStatus;J)V"⟩ : MethodName) prog_22_method_1_code 5 none :: ws) ({ frames := 5, cells := 6, slots := 64, locals := 160 } : Room)) (fun a U => a = #[(.ref a1), (.ref a2), (.ref wq), (.long nq)] ∧ Z.Warmed39 U.vm ∧ U.heap = h0 ∧ CHv Z own_EL U.vm h0 ∧ ∀ x ∈ ([a1] : List Addr), Safe Z own_EL U.vm h0 x) (fun _ _ _ _ _ => True) (fun _ U o U' => OwnEndW Z own_EL U (fun v h L => v = none ∧ Fr n0 L ∧ Keep h0 h [a1] ∧ Exa Z h a1 "com/example/lease/lease/OwnerCount" ∧ Fld Z h a1 "com/example/lease/lease/OwnerCount" "owner" "Ljava/lang/String;" (.ref a2) ∧ Fld Z h a1 "com/example/lease/lease/OwnerCount" "status" "Lcom/example/lease/lease/PartitionStatus;" (.ref wq) ∧ Fld Z h a1 "com/example/lease/lease/OwnerCount" "count" "J" (.long nq)) ({ frames := 5, cells := 6, slots := 64, locals := 160 } : Room).cells ({ frames := 5, cells := 6, slots := 64, locals := 160 } : Room).slots o U') := by
  refine MetFree.of_bodySF (plainFor_of_name ini_pn) hisR ?_
  intro p e s m args below meth c s₁ Bd hml0 hP hK
  obtain ⟨rfl, hZ, hh, hCH, hSL⟩ := hP
  have hx := Bd.exec
  have hby := Bd.bytes
  have hml : c.maxLocals = 5 := hml0
  have hown : s.vm.findClass "com/example/lease/lease/OwnerCount" = some m.cls := findClass_of_methodNamed Bd.named
  have hnm := (name_of_methodNamed Bd.named Bd.method).1
  have X0 : Stand p l e ({ frames := 5, cells := 6, slots := 64, locals := 160 } : Room) (s.setVm s.vm) m #[(.ref a1), (.ref a2), (.ref wq), (.long nq)] below meth c s₁ [] 0 0 := Stand.of_body Bd
  have e0 : s₁.heap = h0 := by rw [← hh, Bd.state]; rfl
  have N0 := Fr.nil n0
  have KP0 := Keep.refl h0 [a1]
  have hown : (s.setVm s.vm).vm.findClass "com/example/lease/lease/OwnerCount" = some m.cls := hown
  have hZ : Z.Warmed39 (s.setVm s.vm).vm := hZ
  have hS0 : s.Since s.vm 0 := (State.WarmedH.refl s).since 0
  have hk0 : 0 ≤ h0.size := Nat.zero_le _
  have CR0 : CHr Z own_EL s.vm h0 s.vm h0 := CHr.refl hCH
  have hEL := own_EW hw
  have sf_a1 := hSL a1 (List.mem_of_getElem? (i := 0) rfl)
  refine own_go (Q := (OwnEndW Z own_EL s (fun v h L => v = none ∧ Fr n0 L ∧ Keep h0 h [a1] ∧ Exa Z h a1 "com/example/lease/lease/OwnerCount" ∧ Fld Z h a1 "com/example/lease/lease/OwnerCount" "owner" "Ljava/lang/String;" (.ref a2) ∧ Fld Z h a1 "com/example/lease/lease/OwnerCount" "status" "Lcom/example/lease/lease/PartitionStatus;" (.ref wq) ∧ Fld Z h a1 "com/example/lease/lease/OwnerCount" "count" "J" (.long nq)) ({ frames := 5, cells := 6, slots := 64, locals := 160 } : Room).cells ({ frames := 5, cells := 6, slots := 64, locals := 160 } : Room).slots)) ?_
  refine own_back (fun t k => castTop (ini_ef m a1 a2 wq nq) k) ?_
  show OwnGo p e below (s₁.setTop (mkF m 0 #[.val (.ref a1), .val (.ref a2), .val (.ref wq), .val (.long nq), .second] [])) _
  have E2 := B2.exa
  refine own_back (fun t k => XS.aloadN X0.here hx rfl (hb hby ini_d0) rfl rfl k) ?_
  show OwnGo p e below (s₁.setTop (mkF m 1 #[.val (.ref a1), .val (.ref a2), .val (.ref wq), .val (.long nq), .second] [(.ref a1)])) _
  obtain ⟨T695, X695, e695, st695⟩ := initO X0 hx hZ hown (hw _ (List.mem_of_getElem? (i := 38) rfl)) (hw _ (List.mem_of_getElem? (i := 16) rfl)) (hw _ (List.mem_of_getElem? (i := 17) rfl)) e0 (g := (mkF m 1 #[.val (.ref a1), .val (.ref a2), .val (.ref wq), .val (.long nq), .second] [(.ref a1)])) rfl (by rw [hml]; rfl) rfl (hb hby ini_d1) (by decide) (W := 0) (by show 2 * 0 + _ ≤ _; exact Nat.le_of_eq rfl) (by decide)
  refine own_back st695 ?_
  show OwnGo p e below (T695.setTop (mkF m 4 #[.val (.ref a1), .val (.ref a2), .val (.ref wq), .val (.long nq), .second] [])) _
  refine own_back (fun t k => XS.aloadN X695.here hx rfl (hb hby ini_d4) rfl rfl k) ?_
  show OwnGo p e below (T695.setTop (mkF m 5 #[.val (.ref a1), .val (.ref a2), .val (.ref wq), .val (.long nq), .second] [(.ref a1)])) _
  refine own_back (fun t k => XS.aloadN X695.here hx rfl (hb hby ini_d5) rfl rfl k) ?_
  show OwnGo p e below (T695.setTop (mkF m 6 #[.val (.ref a1), .val (.ref a2), .val (.ref wq), .val (.long nq), .second] [(.ref a2), (.ref a1)])) _
  obtain ⟨a696, T696, h696, k1696, X696, e696, E696, hS696, hk696, hZ696, hown696, CRl696, hLit696, st696⟩ := ldcOH X695 hx hZ hown (hw _ (List.mem_of_getElem? (i := 39) rfl)) (own_wS hw) e695 hS0 hk0 hEL CR0.1 (g := (mkF m 6 #[.val (.ref a1), .val (.ref a2), .val (.ref wq), .val (.long nq), .second] [(.ref a2), (.ref a1)])) rfl (hb hby ini_d6) (n := 20) (Nat.le_of_ble_eq_true rfl) (by decide) (Nat.le_of_ble_eq_true rfl) (Nat.le_of_ble_eq_true rfl)
  have O697 := OL.ext E696
  have KP698 := KP0.ext E696
  have Zs699 := Nat.le_trans Z0 E696.1
  have CR700 := CR0.trans CRl696
  have f701 := (CRl696.safe E1.lt sf_a1)
  have f702 := E1.ext E696
  have f703 := E2.ext E696
  have f704 := B2.ext E696
  have f705 := (EQ.ext OL.2).ext E696
  have f706 := G0.ext E696
  have f707 := G1.ext E696
  have f708 := G2.ext E696
  have f709 := G3.ext E696
  refine own_back st696 ?_
  show OwnGo p e below (T696.setTop (mkF m 8 #[.val (.ref a1), .val (.ref a2), .val (.ref wq), .val (.long nq), .second] [(.ref a696), (.ref a2), (.ref a1)])) _
  obtain ⟨_, _, ⟨T710, L710, k710, n710⟩, -, X710, ⟨Lc710, hQ710, l710, y710, z710⟩, st710⟩ := Jvm.LawKit.callS X696 hx (y := (⟨"java/util/Objects", "requireNonNull", "(Ljava/lang/Object;Ljava/lang/String;)Ljava/lang/Object;"⟩ : MethodName)) hown696 (mvT hZ696 (hw _ (List.mem_of_getElem? (i := 40) rfl))) (mvT hZ696 (hw _ (List.mem_of_getElem? (i := 41) rfl))) (mvT hZ696 (hw _ (List.mem_of_getElem? (i := 42) rfl))) (mvT hZ696 (hw _ (List.mem_of_getElem? (i := 43) rfl))) (by decide) (own_backN (W := 1) (rm_rnn l Z a0 hw [] a2 a696 h696 n0 Zs699) hZ696 (hw _ (List.mem_of_getElem? (i := 43) rfl)) (hw _ (List.mem_of_getElem? (i := 42) rfl)) (by decide) (by decide)) (g := (mkF m 8 #[.val (.ref a1), .val (.ref a2), .val (.ref wq), .val (.long nq), .second] [(.ref a696), (.ref a2), (.ref a1)])) rfl (by rw [hml]; rfl) (argsL := [(.ref a2), (.ref a696)]) (rest := [(.ref a1)]) (lenOf ini_pd0 rfl) rfl (by show 2 * 0 + _ ≤ _; exact Nat.le_of_eq rfl) (hb hby ini_d8) (fun _ _ => ⟨rfl, e696, Nat.le_of_ble_eq_true rfl, Nat.le_of_ble_eq_true rfl⟩)
  dsimp only [Pt.U, Pt.locs, Pt.cells, Pt.slots] at X710 l710 y710 z710 st710 hQ710
  subst l710 y710 z710
  obtain ⟨rfl, N710q, hh710⟩ := hQ710
  refine own_back st710 ?_
  have N710 := Fr.app N0 N710q
  show OwnGo p e below (T710.setTop (mkF m 11 #[.val (.ref a1), .val (.ref a2), .val (.ref wq), .val (.long nq), .second] [(.ref a2), (.ref a1)])) _
  obtain ⟨T711, X711, e711, st711⟩ := castY X710 hx hZ696 hown696 (hw _ (List.mem_of_getElem? (i := 44) rfl)) hh710 (Ins.self f703) (g := (mkF m 11 #[.val (.ref a1), .val (.ref a2), .val (.ref wq), .val (.long nq), .second] [(.ref a2), (.ref a1)])) rfl rfl (hb hby ini_d11)
  refine own_back st711 ?_
  show OwnGo p e below (T711.setTop (mkF m 14 #[.val (.ref a1), .val (.ref a2), .val (.ref wq), .val (.long nq), .second] [(.ref a2), (.ref a1)])) _
  obtain ⟨T712, h712, X712, e712, W712, st712⟩ := putF X711 hx hZ696 hown696 (host := "") (Or.inl (hw _ (List.mem_of_getElem? (i := 45) rfl))) Via.refl e711 f706 f702 (Or.inr ⟨(hw _ (List.mem_of_getElem? (i := 46) rfl)), rfl, hnm⟩) (hw _ (List.mem_of_getElem? (i := 27) rfl)) (ty := (.object "java/lang/String")) (by decide) rfl rfl (g := (mkF m 14 #[.val (.ref a1), .val (.ref a2), .val (.ref wq), .val (.long nq), .second] [(.ref a2), (.ref a1)])) rfl rfl (hb hby ini_d14)
  have O713 := O697.wr W712 g1
  have KP714 := KP698.wr W712 (Or.inl (List.mem_of_getElem? (i := 0) rfl))
  have Zs715 := Nat.le_trans Zs699 (Keep.of_wr W712).1
  have CR716 := CR700.trans (CHr.wr W712 f701 CR700.1)
  have hk717 := Nat.le_trans hk696 (Keep.of_wr W712).1
  have f718 := (Safe.wr W712 f701 CR700.1 f701)
  have f719 := f702.wr W712
  have f720 := f703.wr W712
  have f721 := (OwnStr.wrE W712 f702 (by decide) (hw _ (List.mem_of_getElem? (i := 27) rfl)) f704)
  have f722 := f705.wr W712
  have f723 := f707.other W712 (Or.inr (slot_ne (Or.inr (hw _ (List.mem_of_getElem? (i := 85) rfl))) (Or.inr (hw _ (List.mem_of_getElem? (i := 46) rfl))) (by decide) (t := (.array .byte)) (t' := (.object "java/lang/String")) (by decide) (by decide)))
  have f724 := f708.other W712 (Or.inr (slot_ne (Or.inr (hw _ (List.mem_of_getElem? (i := 90) rfl))) (Or.inr (hw _ (List.mem_of_getElem? (i := 46) rfl))) (by decide) (t := (.object "com/example/lease/lease/PartitionStatus")) (t' := (.object "java/lang/String")) (by decide) (by decide)))
  have f725 := f709.other W712 (Or.inr (slot_ne (Or.inr (hw _ (List.mem_of_getElem? (i := 92) rfl))) (Or.inr (hw _ (List.mem_of_getElem? (i := 46) rfl))) (by decide) (t := .long) (t' := (.object "java/lang/String")) (by decide) (by decide)))
  have F726 := f706.same W712
  have N727 := Fr.snoc X712 N710 g1
  refine own_back st712 ?_
  show OwnGo p e below (T712.setTop (mkF m 17 #[.val (.ref a1), .val (.ref a2), .val (.ref wq), .val (.long nq), .second] [])) _
  refine own_back (fun t k => XS.aloadN X712.here hx rfl (hb hby ini_d17) rfl rfl k) ?_
  show OwnGo p e below (T712.setTop (mkF m 18 #[.val (.ref a1), .val (.ref a2), .val (.ref wq), .val (.long nq), .second] [(.ref a1)])) _
  refine own_back (fun t k => XS.aloadN X712.here hx rfl (hb hby ini_d18) rfl rfl k) ?_
  show OwnGo p e below (T712.setTop (mkF m 19 #[.val (.ref a1), .val (.ref a2), .val (.ref wq), .val (.long nq), .second] [(.ref a2), (.ref a1)])) _
  obtain ⟨T728, X728, e728, st728⟩ := getS2 X712 hx hZ696 hown696 (host := "") (Or.inl (hw _ (List.mem_of_getElem? (i := 47) rfl))) Via.refl e712 (SU.ext O713.2) (g := (mkF m 19 #[.val (.ref a1), .val (.ref a2), .val (.ref wq), .val (.long nq), .second] [(.ref a2), (.ref a1)])) rfl (hb hby ini_d19)
  refine own_back st728 ?_
  show OwnGo p e below (T728.setTop (mkF m 22 #[.val (.ref a1), .val (.ref a2), .val (.ref wq), .val (.long nq), .second] [(.ref w8), (.ref a2), (.ref a1)])) _
  obtain ⟨cq729, kq729, q729a, q729b, q729c⟩ := isOf hZ696 e728 (OwnStr.exa f721)
  obtain ⟨_, _, ⟨T729, L729, k729, n729⟩, -, X729, ⟨Lc729, hQ729, l729, y729, z729⟩, st729⟩ := X728.virtualBack hx (y := (⟨"java/lang/String", "getBytes", "(Ljava/nio/charset/Charset;)[B"⟩ : MethodName)) (z := (⟨"java/lang/String", "getBytes", "(Ljava/nio/charset/Charset;)[B"⟩ : MethodName)) hown696 (mvT hZ696 (hw _ (List.mem_of_getElem? (i := 49) rfl))) (mvT hZ696 (hw _ (List.mem_of_getElem? (i := 50) rfl))) (notFace_of_selects (args := #[]) (mvT hZ696 (hw _ (List.mem_of_getElem? (i := 52) rfl)))) (mvT hZ696 (hw _ (List.mem_of_getElem? (i := 52) rfl))) (mvT hZ696 (hw _ (List.mem_of_getElem? (i := 51) rfl))) (by decide) (own_backN (W := 1) (rm_gb l Z a0 hw [] a2 bs w8 cz h712 n0 Zs715 O713 f721 hb2 SI SC hcz) hZ696 (hw _ (List.mem_of_getElem? (i := 53) rfl)) (hw _ (List.mem_of_getElem? (i := 6) rfl)) (by decide) (by decide)) q729a q729c (g := (mkF m 22 #[.val (.ref a1), .val (.ref a2), .val (.ref wq), .val (.long nq), .second] [(.ref w8), (.ref a2), (.ref a1)])) rfl (by rw [hml]; rfl) (Steps.refl _) (argsL := [(.ref w8)]) (rest := [(.ref a1)]) (lenOf ini_pd1 rfl) rfl (by show 2 * 0 + _ ≤ _; exact Nat.le_of_eq rfl) (hb hby ini_d22) (fun _ _ => ⟨rfl, e728, Nat.le_of_ble_eq_true rfl, Nat.le_of_ble_eq_true rfl⟩)
  dsimp only [Pt.U, Pt.locs, Pt.cells, Pt.slots] at X729 l729 y729 z729 st729 hQ729
  subst l729 y729 z729
  obtain ⟨bq729, rfl, N729q, E729⟩ := hQ729
  refine own_seq st729 ?_
  have N729 := Fr.app N727 N729q
  have O730 := O713.ext E729
  have KP731 := KP714.ext E729
  have Zs732 := Nat.le_trans Zs715 E729.1
  have CR733 := CR716.trans (CHr.ext E729 CR716.1)
  have hk734 := Nat.le_trans hk717 E729.1
  have f735 := (Safe.ext E729 CR716.1 f718)
  have f736 := f719.ext E729
  have f737 := f720.ext E729
  have f738 := f721.ext E729
  have f739 := f722.ext E729
  have f740 := f723.ext E729
  have f741 := f724.ext E729
  have f742 := f725.ext E729
  have f743 := F726.ext E729
  show OwnGo p e below (T729.setTop (mkF m 25 #[.val (.ref a1), .val (.ref a2), .val (.ref wq), .val (.long nq), .second] [(.ref bq729), (.ref a1)])) _
  obtain ⟨T744, h744, X744, e744, W744, st744⟩ := putF X729 hx hZ696 hown696 (host := "") (Or.inl (hw _ (List.mem_of_getElem? (i := 84) rfl))) Via.refl rfl f740 f736 (Or.inr ⟨(hw _ (List.mem_of_getElem? (i := 85) rfl)), rfl, hnm⟩) (hw _ (List.mem_of_getElem? (i := 27) rfl)) (ty := (.array .byte)) (by decide) rfl rfl (g := (mkF m 25 #[.val (.ref a1), .val (.ref a2), .val (.ref wq), .val (.long nq), .second] [(.ref bq729), (.ref a1)])) rfl rfl (hb hby ini_d25)
  have O745 := O730.wr W744 g1
  have KP746 := KP731.wr W744 (Or.inl (List.mem_of_getElem? (i := 0) rfl))
  have Zs747 := Nat.le_trans Zs732 (Keep.of_wr W744).1
  have CR748 := CR733.trans (CHr.wr W744 f735 CR733.1)
  have hk749 := Nat.le_trans hk734 (Keep.of_wr W744).1
  have f750 := (Safe.wr W744 f735 CR733.1 f735)
  have f751 := f736.wr W744
  have f752 := f737.wr W744
  have f753 := (OwnStr.wrE W744 f736 (by decide) (hw _ (List.mem_of_getElem? (i := 27) rfl)) f738)
  have f754 := f739.wr W744
  have f755 := f741.other W744 (Or.inr (slot_ne (Or.inr (hw _ (List.mem_of_getElem? (i := 90) rfl))) (Or.inr (hw _ (List.mem_of_getElem? (i := 85) rfl))) (by decide) (t := (.object "com/example/lease/lease/PartitionStatus")) (t' := (.array .byte)) (by decide) (by decide)))
  have f756 := f742.other W744 (Or.inr (slot_ne (Or.inr (hw _ (List.mem_of_getElem? (i := 92) rfl))) (Or.inr (hw _ (List.mem_of_getElem? (i := 85) rfl))) (by decide) (t := .long) (t' := (.array .byte)) (by decide) (by decide)))
  have f757 := f743.other W744 (Or.inr (slot_ne (Or.inr (hw _ (List.mem_of_getElem? (i := 46) rfl))) (Or.inr (hw _ (List.mem_of_getElem? (i := 85) rfl))) (by decide) (t := (.object "java/lang/String")) (t' := (.array .byte)) (by decide) (by decide)))
  have F758 := f740.same W744
  have N759 := Fr.snoc X744 N729 g1
  refine own_back st744 ?_
  show OwnGo p e below (T744.setTop (mkF m 28 #[.val (.ref a1), .val (.ref a2), .val (.ref wq), .val (.long nq), .second] [])) _
  refine own_back (fun t k => XS.aloadN X744.here hx rfl (hb hby ini_d28) rfl rfl k) ?_
  show OwnGo p e below (T744.setTop (mkF m 29 #[.val (.ref a1), .val (.ref a2), .val (.ref wq), .val (.long nq), .second] [(.ref a1)])) _
  refine own_back (fun t k => XS.aloadN X744.here hx rfl (hb hby ini_d29) rfl rfl k) ?_
  show OwnGo p e below (T744.setTop (mkF m 30 #[.val (.ref a1), .val (.ref a2), .val (.ref wq), .val (.long nq), .second] [(.ref wq), (.ref a1)])) _
  obtain ⟨a760, T760, h760, k1760, X760, e760, E760, hS760, hk760, hZ760, hown760, CRl760, hLit760, st760⟩ := ldcOH X744 hx hZ696 hown696 (hw _ (List.mem_of_getElem? (i := 86) rfl)) (own_wS hw) e744 hS696 hk749 hEL CR748.1 (g := (mkF m 30 #[.val (.ref a1), .val (.ref a2), .val (.ref wq), .val (.long nq), .second] [(.ref wq), (.ref a1)])) rfl (hb hby ini_d30) (n := 24) (Nat.le_of_ble_eq_true rfl) (by decide) (Nat.le_of_ble_eq_true rfl) (Nat.le_of_ble_eq_true rfl)
  have O761 := O745.ext E760
  have KP762 := KP746.ext E760
  have Zs763 := Nat.le_trans Zs747 E760.1
  have CR764 := CR748.trans CRl760
  have f765 := (CRl760.safe f751.lt f750)
  have f766 := f751.ext E760
  have f767 := f752.ext E760
  have f768 := f753.ext E760
  have f769 := f754.ext E760
  have f770 := f755.ext E760
  have f771 := f756.ext E760
  have f772 := f757.ext E760
  have f773 := F758.ext E760
  refine own_back st760 ?_
  show OwnGo p e below (T760.setTop (mkF m 32 #[.val (.ref a1), .val (.ref a2), .val (.ref wq), .val (.long nq), .second] [(.ref a760), (.ref wq), (.ref a1)])) _
  obtain ⟨_, _, ⟨T774, L774, k774, n774⟩, -, X774, ⟨Lc774, hQ774, l774, y774, z774⟩, st774⟩ := Jvm.LawKit.callS X760 hx (y := (⟨"java/util/Objects", "requireNonNull", "(Ljava/lang/Object;Ljava/lang/String;)Ljava/lang/Object;"⟩ : MethodName)) hown760 (mvT hZ760 (hw _ (List.mem_of_getElem? (i := 40) rfl))) (mvT hZ760 (hw _ (List.mem_of_getElem? (i := 41) rfl))) (mvT hZ760 (hw _ (List.mem_of_getElem? (i := 42) rfl))) (mvT hZ760 (hw _ (List.mem_of_getElem? (i := 43) rfl))) (by decide) (own_backN (W := 1) (rm_rnn l Z a0 hw [] wq a760 h760 n0 Zs763) hZ760 (hw _ (List.mem_of_getElem? (i := 43) rfl)) (hw _ (List.mem_of_getElem? (i := 42) rfl)) (by decide) (by decide)) (g := (mkF m 32 #[.val (.ref a1), .val (.ref a2), .val (.ref wq), .val (.long nq), .second] [(.ref a760), (.ref wq), (.ref a1)])) rfl (by rw [hml]; rfl) (argsL := [(.ref wq), (.ref a760)]) (rest := [(.ref a1)]) (lenOf ini_pd0 rfl) rfl (by show 2 * 0 + _ ≤ _; exact Nat.le_of_eq rfl) (hb hby ini_d32) (fun _ _ => ⟨rfl, e760, Nat.le_of_ble_eq_true rfl, Nat.le_of_ble_eq_true rfl⟩)
  dsimp only [Pt.U, Pt.locs, Pt.cells, Pt.slots] at X774 l774 y774 z774 st774 hQ774
  subst l774 y774 z774
  obtain ⟨rfl, N774q, hh774⟩ := hQ774
  refine own_back st774 ?_
  have N774 := Fr.app N759 N774q
  show OwnGo p e below (T774.setTop (mkF m 35 #[.val (.ref a1), .val (.ref a2), .val (.ref wq), .val (.long nq), .second] [(.ref wq), (.ref a1)])) _
  obtain ⟨T775, X775, e775, st775⟩ := castY X774 hx hZ760 hown760 (hw _ (List.mem_of_getElem? (i := 87) rfl)) hh774 (Ins.self f769) (g := (mkF m 35 #[.val (.ref a1), .val (.ref a2), .val (.ref wq), .val (.long nq), .second] [(.ref wq), (.ref a1)])) rfl rfl (hb hby ini_d35)
  refine own_back st775 ?_
  show OwnGo p e below (T775.setTop (mkF m 38 #[.val (.ref a1), .val (.ref a2), .val (.ref wq), .val (.long nq), .second] [(.ref wq), (.ref a1)])) _
  obtain ⟨T776, h776, X776, e776, W776, st776⟩ := putF X775 hx hZ760 hown760 (host := "") (Or.inl (hw _ (List.mem_of_getElem? (i := 89) rfl))) Via.refl e775 f770 f766 (Or.inr ⟨(hw _ (List.mem_of_getElem? (i := 90) rfl)), rfl, hnm⟩) (hw _ (List.mem_of_getElem? (i := 27) rfl)) (ty := (.object "com/example/lease/lease/PartitionStatus")) (by decide) rfl rfl (g := (mkF m 38 #[.val (.ref a1), .val (.ref a2), .val (.ref wq), .val (.long nq), .second] [(.ref wq), (.ref a1)])) rfl rfl (hb hby ini_d38)
  have O777 := O761.wr W776 g1
  have KP778 := KP762.wr W776 (Or.inl (List.mem_of_getElem? (i := 0) rfl))
  have Zs779 := Nat.le_trans Zs763 (Keep.of_wr W776).1
  have CR780 := CR764.trans (CHr.wr W776 f765 CR764.1)
  have hk781 := Nat.le_trans hk760 (Keep.of_wr W776).1
  have f782 := (Safe.wr W776 f765 CR764.1 f765)
  have f783 := f766.wr W776
  have f784 := f767.wr W776
  have f785 := (OwnStr.wrE W776 f766 (by decide) (hw _ (List.mem_of_getElem? (i := 27) rfl)) f768)
  have f786 := f769.wr W776
  have f787 := f771.other W776 (Or.inr (slot_ne (Or.inr (hw _ (List.mem_of_getElem? (i := 92) rfl))) (Or.inr (hw _ (List.mem_of_getElem? (i := 90) rfl))) (by decide) (t := .long) (t' := (.object "com/example/lease/lease/PartitionStatus")) (by decide) (by decide)))
  have f788 := f772.other W776 (Or.inr (slot_ne (Or.inr (hw _ (List.mem_of_getElem? (i := 46) rfl))) (Or.inr (hw _ (List.mem_of_getElem? (i := 90) rfl))) (by decide) (t := (.object "java/lang/String")) (t' := (.object "com/example/lease/lease/PartitionStatus")) (by decide) (by decide)))
  have f789 := f773.other W776 (Or.inr (slot_ne (Or.inr (hw _ (List.mem_of_getElem? (i := 85) rfl))) (Or.inr (hw _ (List.mem_of_getElem? (i := 90) rfl))) (by decide) (t := (.array .byte)) (t' := (.object "com/example/lease/lease/PartitionStatus")) (by decide) (by decide)))
  have F790 := f770.same W776
  have N791 := Fr.snoc X776 N774 g1
  refine own_back st776 ?_
  show OwnGo p e below (T776.setTop (mkF m 41 #[.val (.ref a1), .val (.ref a2), .val (.ref wq), .val (.long nq), .second] [])) _
  refine own_back (fun t k => XS.aloadN X776.here hx rfl (hb hby ini_d41) rfl rfl k) ?_
  show OwnGo p e below (T776.setTop (mkF m 42 #[.val (.ref a1), .val (.ref a2), .val (.ref wq), .val (.long nq), .second] [(.ref a1)])) _
  refine own_back (fun t k => XS.lloadN X776.here hx rfl (hb hby ini_d42) rfl k) ?_
  show OwnGo p e below (T776.setTop (mkF m 43 #[.val (.ref a1), .val (.ref a2), .val (.ref wq), .val (.long nq), .second] [(.long nq), (.ref a1)])) _
  obtain ⟨T792, h792, X792, e792, W792, st792⟩ := putF X776 hx hZ760 hown760 (host := "") (Or.inl (hw _ (List.mem_of_getElem? (i := 91) rfl))) Via.refl e776 f787 f783 (Or.inr ⟨(hw _ (List.mem_of_getElem? (i := 92) rfl)), rfl, hnm⟩) (hw _ (List.mem_of_getElem? (i := 27) rfl)) (ty := .long) (by decide) rfl rfl (g := (mkF m 43 #[.val (.ref a1), .val (.ref a2), .val (.ref wq), .val (.long nq), .second] [(.long nq), (.ref a1)])) rfl rfl (hb hby ini_d43)
  have O793 := O777.wr W792 g1
  have KP794 := KP778.wr W792 (Or.inl (List.mem_of_getElem? (i := 0) rfl))
  have Zs795 := Nat.le_trans Zs779 (Keep.of_wr W792).1
  have CR796 := CR780.trans (CHr.wr W792 f782 CR780.1)
  have hk797 := Nat.le_trans hk781 (Keep.of_wr W792).1
  have f798 := (Safe.wr W792 f782 CR780.1 f782)
  have f799 := f783.wr W792
  have f800 := f784.wr W792
  have f801 := (OwnStr.wrE W792 f783 (by decide) (hw _ (List.mem_of_getElem? (i := 27) rfl)) f785)
  have f802 := f786.wr W792
  have f803 := f788.other W792 (Or.inr (slot_ne (Or.inr (hw _ (List.mem_of_getElem? (i := 46) rfl))) (Or.inr (hw _ (List.mem_of_getElem? (i := 92) rfl))) (by decide) (t := (.object "java/lang/String")) (t' := .long) (by decide) (by decide)))
  have f804 := f789.other W792 (Or.inr (slot_ne (Or.inr (hw _ (List.mem_of_getElem? (i := 85) rfl))) (Or.inr (hw _ (List.mem_of_getElem? (i := 92) rfl))) (by decide) (t := (.array .byte)) (t' := .long) (by decide) (by decide)))
  have f805 := F790.other W792 (Or.inr (slot_ne (Or.inr (hw _ (List.mem_of_getElem? (i := 90) rfl))) (Or.inr (hw _ (List.mem_of_getElem? (i := 92) rfl))) (by decide) (t := (.object "com/example/lease/lease/PartitionStatus")) (t' := .long) (by decide) (by decide)))
  have F806 := f787.same W792
  have N807 := Fr.snoc X792 N791 g1
  refine own_back st792 ?_
  show OwnGo p e below (T792.setTop (mkF m 46 #[.val (.ref a1), .val (.ref a2), .val (.ref wq), .val (.long nq), .second] [])) _
  refine own_retVW X792 hx Bd.notSynchronized Bd.returns hS760 hk797 hZ760 hEL (hh ▸ CR796) (hb hby ini_d46) e792 (Nat.le_of_ble_eq_true rfl) (Nat.le_of_ble_eq_true rfl) ?_
  exact ⟨rfl, N807, KP794, f799, f803, f805, F806⟩
theorem oeq_d0 : decode prog_22_method_5_code 0 = .ok (.aload_n 1, 1) := by decide +kernel
theorem oeq_d1 : decode prog_22_method_5_code 1 = .ok (.instanceof 18, 3) := by decide +kernel
theorem oeq_d4 : decode prog_22_method_5_code 4 = .ok (.ifCond .eq 49, 3) := by decide +kernel
theorem oeq_d7 : decode prog_22_method_5_code 7 = .ok (.aload_n 1, 1) := by decide +kernel
theorem oeq_d8 : decode prog_22_method_5_code 8 = .ok (.checkcast 18, 3) := by decide +kernel
theorem oeq_d11 : decode prog_22_method_5_code 11 = .ok (.astore_n 2, 1) := by decide +kernel
theorem oeq_d12 : decode prog_22_method_5_code 12 = .ok (.aload_n 0, 1) := by decide +kernel
theorem oeq_d13 : decode prog_22_method_5_code 13 = .ok (.getfield 17, 3) := by decide +kernel
theorem oeq_d16 : decode prog_22_method_5_code 16 = .ok (.aload_n 2, 1) := by decide +kernel
theorem oeq_d17 : decode prog_22_method_5_code 17 = .ok (.getfield 17, 3) := by decide +kernel
theorem oeq_d20 : decode prog_22_method_5_code 20 = .ok (.invokevirtual 47, 3) := by decide +kernel
theorem oeq_d23 : decode prog_22_method_5_code 23 = .ok (.ifCond .eq 30, 3) := by decide +kernel
theorem oeq_d26 : decode prog_22_method_5_code 26 = .ok (.aload_n 0, 1) := by decide +kernel
theorem oeq_d27 : decode prog_22_method_5_code 27 = .ok (.getfield 40, 3) := by decide +kernel
theorem oeq_d30 : decode prog_22_method_5_code 30 = .ok (.aload_n 2, 1) := by decide +kernel
theorem oeq_d31 : decode prog_22_method_5_code 31 = .ok (.getfield 40, 3) := by decide +kernel
theorem oeq_d34 : decode prog_22_method_5_code 34 = .ok (.if_acmp .ne 19, 3) := by decide +kernel
theorem oeq_d37 : decode prog_22_method_5_code 37 = .ok (.aload_n 0, 1) := by decide +kernel
theorem oeq_d38 : decode prog_22_method_5_code 38 = .ok (.getfield 43, 3) := by decide +kernel
theorem oeq_d41 : decode prog_22_method_5_code 41 = .ok (.aload_n 2, 1) := by decide +kernel
theorem oeq_d42 : decode prog_22_method_5_code 42 = .ok (.getfield 43, 3) := by decide +kernel
theorem oeq_d45 : decode prog_22_method_5_code 45 = .ok (.lcmp, 1) := by decide +kernel
theorem oeq_d46 : decode prog_22_method_5_code 46 = .ok (.ifCond .ne 7, 3) := by decide +kernel
theorem oeq_d49 : decode prog_22_method_5_code 49 = .ok (.iconst 1, 1) := by decide +kernel
theorem oeq_d50 : decode prog_22_method_5_code 50 = .ok (.goto 4, 3) := by decide +kernel
theorem oeq_d53 : decode prog_22_method_5_code 53 = .ok (.iconst 0, 1) := by decide +kernel
theorem oeq_d54 : decode prog_22_method_5_code 54 = .ok (.ireturn, 1) := by decide +kernel
theorem oeq_pn : plainName "com/example/lease/lease/OwnerCount" = true := by first | (simp [plainName, overriddenIn]; done) | decide +kernel
theorem oeq_pd0 : parseMethodDescriptor "(Ljava/lang/Object;)Z" = some ⟨[(.object "java/lang/Object")], some .boolean⟩ := by decide +kernel
theorem oeq_ef (m : MethodId) (x0 : Addr) (x1 : Addr) : entryFrame m #[(.ref x0), (.ref x1)] 3 = mkF m 0 #[.val (.ref x0), .val (.ref x1), .unset] [] := by first | (simp [entryFrame, mkF, argsToLocals, Value.category]; done) | rfl
set_option maxRecDepth 65536 in
set_option maxHeartbeats 40000000 in
theorem rm_oeq (l : Launch) (Z : State) (a0 : Array Value) (hw : ∀ d ∈ tables_1, d.before a0 Z = true) (ws : List Jvm.Cond) (a1 : Addr) (a2 : Addr) (s1 : Addr) (s2 : Addr) (w1 : Addr) (w2 : Addr) (n1 : Int64) (n2 : Int64) (bs : List Int32) (ds : List Int32) (cz : Int32) (h0 : Heap) (n0 : Nat) (Z0 : n0 ≤ h0.size) (OL : Old Z n0 h0) (E1 : Exa Z h0 a1 "com/example/lease/lease/OwnerCount") (E2 : Exa Z h0 a2 "com/example/lease/lease/OwnerCount") (FO1 : Fld Z h0 a1 "com/example/lease/lease/OwnerCount" "owner" "Ljava/lang/String;" (.ref s1)) (FS1 : Fld Z h0 a1 "com/example/lease/lease/OwnerCount" "status" "Lcom/example/lease/lease/PartitionStatus;" (.ref w1)) (FC1 : Fld Z h0 a1 "com/example/lease/lease/OwnerCount" "count" "J" (.long n1)) (FO2 : Fld Z h0 a2 "com/example/lease/lease/OwnerCount" "owner" "Ljava/lang/String;" (.ref s2)) (FS2 : Fld Z h0 a2 "com/example/lease/lease/OwnerCount" "status" "Lcom/example/lease/lease/PartitionStatus;" (.ref w2)) (FC2 : Fld Z h0 a2 "com/example/lease/lease/OwnerCount" "count" "J" (.long n2)) (B1 : OwnStr Z h0 s1 bs) (B2 : OwnStr Z h0 s2 ds) (SC : Sta Z Z.heap "java/lang/String" "COMPACT_STRINGS" "Z" (.int cz)) (hcz : ¬ cz = 0) :
    MetFree l (⟨"com/example/lease/lease/OwnerCount", "equals", "(Ljava/lang/Object;)Z"⟩ : MethodName) (head1 (Jvm.Cond.code (⟨"com/example/lease/lease/OwnerCount", "equals", "(Ljava/lang/Object;)Z"⟩ : MethodName) prog_22_method_5_code 3 (some .boolean) :: ws) ({ frames := 2, cells := 0, slots := 0, locals := 40 } : Room)) (fun a U => a = #[(.ref a1), (.ref a2)] ∧ Z.Warmed39 U.vm ∧ U.heap = h0) (fun _ _ _ _ _ => True) (fun _ U o U' => OwnEnd U (fun v h L => v = some (.int (if bs = ds ∧ w1 = w2 ∧ n1 = n2 then 1 else 0)) ∧ Fr n0 L ∧ h = h0) ({ frames := 2, cells := 0, slots := 0, locals := 40 } : Room).cells ({ frames := 2, cells := 0, slots := 0, locals := 40 } : Room).slots o U') := by
  refine MetFree.of_bodySF (plainFor_of_name oeq_pn) hisR ?_
  intro p e s m args below meth c s₁ Bd hml0 hP hK
  obtain ⟨rfl, hZ, hh⟩ := hP
  have hx := Bd.exec
  have hby := Bd.bytes
  have hml : c.maxLocals = 3 := hml0
  have hown : s.vm.findClass "com/example/lease/lease/OwnerCount" = some m.cls := findClass_of_methodNamed Bd.named
  have hnm := (name_of_methodNamed Bd.named Bd.method).1
  have X0 : Stand p l e ({ frames := 2, cells := 0, slots := 0, locals := 40 } : Room) s m #[(.ref a1), (.ref a2)] below meth c s₁ [] 0 0 := Stand.of_body Bd
  have e0 : s₁.heap = h0 := by rw [← hh, Bd.state]; rfl
  have N0 := Fr.nil n0
  have KP0 := Keep.refl h0 []
  refine own_go (Q := (OwnEnd s (fun v h L => v = some (.int (if bs = ds ∧ w1 = w2 ∧ n1 = n2 then 1 else 0)) ∧ Fr n0 L ∧ h = h0) ({ frames := 2, cells := 0, slots := 0, locals := 40 } : Room).cells ({ frames := 2, cells := 0, slots := 0, locals := 40 } : Room).slots)) ?_
  refine own_back (fun t k => castTop (oeq_ef m a1 a2) k) ?_
  show OwnGo p e below (s₁.setTop (mkF m 0 #[.val (.ref a1), .val (.ref a2), .unset] [])) _
  refine own_back (fun t k => XS.aloadN X0.here hx rfl (hb hby oeq_d0) rfl rfl k) ?_
  show OwnGo p e below (s₁.setTop (mkF m 1 #[.val (.ref a1), .val (.ref a2), .unset] [(.ref a2)])) _
  obtain ⟨T808, X808, e808, st808⟩ := instY X0 hx hZ hown (hw _ (List.mem_of_getElem? (i := 98) rfl)) e0 (Ins.self E2) (g := (mkF m 1 #[.val (.ref a1), .val (.ref a2), .unset] [(.ref a2)])) rfl rfl (hb hby oeq_d1)
  refine own_back st808 ?_
  show OwnGo p e below (T808.setTop (mkF m 4 #[.val (.ref a1), .val (.ref a2), .unset] [(.int (1 : Int32))])) _
  refine own_back (fun t k => XS.ifNo X808.here hx rfl (hb hby oeq_d4) rfl (Jvm.Free.XT.i0_eq_f (by decide)) k) ?_
  show OwnGo p e below (T808.setTop (mkF m 7 #[.val (.ref a1), .val (.ref a2), .unset] [])) _
  refine own_back (fun t k => XS.aloadN X808.here hx rfl (hb hby oeq_d7) rfl rfl k) ?_
  show OwnGo p e below (T808.setTop (mkF m 8 #[.val (.ref a1), .val (.ref a2), .unset] [(.ref a2)])) _
  obtain ⟨T809, X809, e809, st809⟩ := castY X808 hx hZ hown (hw _ (List.mem_of_getElem? (i := 98) rfl)) e808 (Ins.self E2) (g := (mkF m 8 #[.val (.ref a1), .val (.ref a2), .unset] [(.ref a2)])) rfl rfl (hb hby oeq_d8)
  refine own_back st809 ?_
  show OwnGo p e below (T809.setTop (mkF m 11 #[.val (.ref a1), .val (.ref a2), .unset] [(.ref a2)])) _
  refine own_back (fun t k => XS.astoreN X809.here hx rfl (hb hby oeq_d11) rfl rfl (l' := #[.val (.ref a1), .val (.ref a2), .val (.ref a2)]) rfl k) ?_
  show OwnGo p e below (T809.setTop (mkF m 12 #[.val (.ref a1), .val (.ref a2), .val (.ref a2)] [])) _
  refine own_back (fun t k => XS.aloadN X809.here hx rfl (hb hby oeq_d12) rfl rfl k) ?_
  show OwnGo p e below (T809.setTop (mkF m 13 #[.val (.ref a1), .val (.ref a2), .val (.ref a2)] [(.ref a1)])) _
  obtain ⟨T810, X810, e810, st810⟩ := getF X809 hx hZ hown (host := "") (Or.inl (hw _ (List.mem_of_getElem? (i := 45) rfl))) Via.refl e809 FO1 (g := (mkF m 13 #[.val (.ref a1), .val (.ref a2), .val (.ref a2)] [(.ref a1)])) rfl rfl (hb hby oeq_d13)
  refine own_back st810 ?_
  show OwnGo p e below (T810.setTop (mkF m 16 #[.val (.ref a1), .val (.ref a2), .val (.ref a2)] [(.ref s1)])) _
  refine own_back (fun t k => XS.aloadN X810.here hx rfl (hb hby oeq_d16) rfl rfl k) ?_
  show OwnGo p e below (T810.setTop (mkF m 17 #[.val (.ref a1), .val (.ref a2), .val (.ref a2)] [(.ref a2), (.ref s1)])) _
  obtain ⟨T811, X811, e811, st811⟩ := getF X810 hx hZ hown (host := "") (Or.inl (hw _ (List.mem_of_getElem? (i := 45) rfl))) Via.refl e810 FO2 (g := (mkF m 17 #[.val (.ref a1), .val (.ref a2), .val (.ref a2)] [(.ref a2), (.ref s1)])) rfl rfl (hb hby oeq_d17)
  refine own_back st811 ?_
  show OwnGo p e below (T811.setTop (mkF m 20 #[.val (.ref a1), .val (.ref a2), .val (.ref a2)] [(.ref s2), (.ref s1)])) _
  by_cases he : bs = ds
  · obtain ⟨cq812, kq812, q812a, q812b, q812c⟩ := isOf hZ e811 (OwnStr.exa B1)
    obtain ⟨_, _, ⟨T812, L812, k812, n812⟩, -, X812, ⟨Lc812, hQ812, l812, y812, z812⟩, st812⟩ := X811.virtualBack hx (y := (⟨"java/lang/String", "equals", "(Ljava/lang/Object;)Z"⟩ : MethodName)) (z := (⟨"java/lang/String", "equals", "(Ljava/lang/Object;)Z"⟩ : MethodName)) hown (mvT hZ (hw _ (List.mem_of_getElem? (i := 100) rfl))) (mvT hZ (hw _ (List.mem_of_getElem? (i := 101) rfl))) (notFace_of_selects (args := #[]) (mvT hZ (hw _ (List.mem_of_getElem? (i := 103) rfl)))) (mvT hZ (hw _ (List.mem_of_getElem? (i := 103) rfl))) (mvT hZ (hw _ (List.mem_of_getElem? (i := 102) rfl))) (by decide) (own_backN (W := 0) (rm_seq l Z a0 hw [] s1 s2 bs ds cz h0 n0 Z0 OL B1 B2 SC hcz) hZ (hw _ (List.mem_of_getElem? (i := 104) rfl)) (hw _ (List.mem_of_getElem? (i := 6) rfl)) (by decide) (by decide)) q812a q812c (g := (mkF m 20 #[.val (.ref a1), .val (.ref a2), .val (.ref a2)] [(.ref s2), (.ref s1)])) rfl (by rw [hml]; rfl) (Steps.refl _) (argsL := [(.ref s2)]) (rest := []) (lenOf oeq_pd0 rfl) rfl (by show 2 * 0 + _ ≤ _; exact Nat.le_of_eq rfl) (hb hby oeq_d20) (fun _ _ => ⟨rfl, e811, Nat.le_of_ble_eq_true rfl, Nat.le_of_ble_eq_true rfl⟩)
    dsimp only [Pt.U, Pt.locs, Pt.cells, Pt.slots] at X812 l812 y812 z812 st812 hQ812
    subst l812 y812 z812
    rw [if_pos he] at hQ812
    obtain ⟨rfl, N812q, hh812⟩ := hQ812
    refine own_seq st812 ?_
    have N812 := Fr.app N0 N812q
    show OwnGo p e below (T812.setTop (mkF m 23 #[.val (.ref a1), .val (.ref a2), .val (.ref a2)] [(.int (1 : Int32))])) _
    refine own_back (fun t k => XS.ifNo X812.here hx rfl (hb hby oeq_d23) rfl (Jvm.Free.XT.i0_eq_f (by decide)) k) ?_
    show OwnGo p e below (T812.setTop (mkF m 26 #[.val (.ref a1), .val (.ref a2), .val (.ref a2)] [])) _
    refine own_back (fun t k => XS.aloadN X812.here hx rfl (hb hby oeq_d26) rfl rfl k) ?_
    show OwnGo p e below (T812.setTop (mkF m 27 #[.val (.ref a1), .val (.ref a2), .val (.ref a2)] [(.ref a1)])) _
    obtain ⟨T813, X813, e813, st813⟩ := getF X812 hx hZ hown (host := "") (Or.inl (hw _ (List.mem_of_getElem? (i := 89) rfl))) Via.refl hh812 FS1 (g := (mkF m 27 #[.val (.ref a1), .val (.ref a2), .val (.ref a2)] [(.ref a1)])) rfl rfl (hb hby oeq_d27)
    refine own_back st813 ?_
    show OwnGo p e below (T813.setTop (mkF m 30 #[.val (.ref a1), .val (.ref a2), .val (.ref a2)] [(.ref w1)])) _
    refine own_back (fun t k => XS.aloadN X813.here hx rfl (hb hby oeq_d30) rfl rfl k) ?_
    show OwnGo p e below (T813.setTop (mkF m 31 #[.val (.ref a1), .val (.ref a2), .val (.ref a2)] [(.ref a2), (.ref w1)])) _
    obtain ⟨T814, X814, e814, st814⟩ := getF X813 hx hZ hown (host := "") (Or.inl (hw _ (List.mem_of_getElem? (i := 89) rfl))) Via.refl e813 FS2 (g := (mkF m 31 #[.val (.ref a1), .val (.ref a2), .val (.ref a2)] [(.ref a2), (.ref w1)])) rfl rfl (hb hby oeq_d31)
    refine own_back st814 ?_
    show OwnGo p e below (T814.setTop (mkF m 34 #[.val (.ref a1), .val (.ref a2), .val (.ref a2)] [(.ref w2), (.ref w1)])) _
    by_cases ha34_815 : w1 = w2
    · refine own_back (fun t k => Jvm.RoadKit.acmp (g := (mkF m 34 #[.val (.ref a1), .val (.ref a2), .val (.ref a2)] [(.ref w2), (.ref w1)])) X814 hx rfl rfl rfl (pc0 := 34) (pc' := 37) (same := true) rfl (hb hby oeq_d34) rfl (decide_eq_true (congrArg Value.ref ha34_815)) (by decide) (by decide) k) ?_
      show OwnGo p e below (T814.setTop (mkF m 37 #[.val (.ref a1), .val (.ref a2), .val (.ref a2)] [])) _
      refine own_back (fun t k => XS.aloadN X814.here hx rfl (hb hby oeq_d37) rfl rfl k) ?_
      show OwnGo p e below (T814.setTop (mkF m 38 #[.val (.ref a1), .val (.ref a2), .val (.ref a2)] [(.ref a1)])) _
      obtain ⟨T816, X816, e816, st816⟩ := getF X814 hx hZ hown (host := "") (Or.inl (hw _ (List.mem_of_getElem? (i := 91) rfl))) Via.refl e814 FC1 (g := (mkF m 38 #[.val (.ref a1), .val (.ref a2), .val (.ref a2)] [(.ref a1)])) rfl rfl (hb hby oeq_d38)
      refine own_back st816 ?_
      show OwnGo p e below (T816.setTop (mkF m 41 #[.val (.ref a1), .val (.ref a2), .val (.ref a2)] [(.long n1)])) _
      refine own_back (fun t k => XS.aloadN X816.here hx rfl (hb hby oeq_d41) rfl rfl k) ?_
      show OwnGo p e below (T816.setTop (mkF m 42 #[.val (.ref a1), .val (.ref a2), .val (.ref a2)] [(.ref a2), (.long n1)])) _
      obtain ⟨T817, X817, e817, st817⟩ := getF X816 hx hZ hown (host := "") (Or.inl (hw _ (List.mem_of_getElem? (i := 91) rfl))) Via.refl e816 FC2 (g := (mkF m 42 #[.val (.ref a1), .val (.ref a2), .val (.ref a2)] [(.ref a2), (.long n1)])) rfl rfl (hb hby oeq_d42)
      refine own_back st817 ?_
      show OwnGo p e below (T817.setTop (mkF m 45 #[.val (.ref a1), .val (.ref a2), .val (.ref a2)] [(.long n2), (.long n1)])) _
      refine own_back (fun t k => XT.lcmp X817.here hx rfl (hb hby oeq_d45) rfl k) ?_
      show OwnGo p e below (T817.setTop (mkF m 46 #[.val (.ref a1), .val (.ref a2), .val (.ref a2)] [(.int (XT.cmpL n1 n2))])) _
      by_cases hc46_818 : n1 = n2
      · refine own_back (fun t k => XS.ifNo X817.here hx rfl (hb hby oeq_d46) rfl (Jvm.Free.XT.ll_ne_f hc46_818) k) ?_
        show OwnGo p e below (T817.setTop (mkF m 49 #[.val (.ref a1), .val (.ref a2), .val (.ref a2)] [])) _
        refine own_back (fun t k => XS.iconst X817.here hx rfl (hb hby oeq_d49) k) ?_
        show OwnGo p e below (T817.setTop (mkF m 50 #[.val (.ref a1), .val (.ref a2), .val (.ref a2)] [(.int (1 : Int32))])) _
        refine own_back (fun t k => XS.goto X817.here hx rfl (pc0 := 50) (pc' := 54) rfl (hb hby oeq_d50) (by decide) (by decide) k) ?_
        show OwnGo p e below (T817.setTop (mkF m 54 #[.val (.ref a1), .val (.ref a2), .val (.ref a2)] [(.int (1 : Int32))])) _
        refine own_retN X817 hx Bd.notSynchronized (t := .boolean) (z := (1 : Int32)) Bd.returns (by simp) rfl (hb hby oeq_d54) e817 (Nat.le_of_ble_eq_true rfl) (Nat.le_of_ble_eq_true rfl) ?_
        exact ⟨by simp [he, ha34_815, hc46_818], N812, rfl⟩
      · refine own_back (fun t k => XS.ifYes X817.here hx rfl (pc0 := 46) (pc' := 53) rfl (hb hby oeq_d46) rfl (Jvm.Free.XT.ll_ne_t hc46_818) (by decide) (by decide) k) ?_
        show OwnGo p e below (T817.setTop (mkF m 53 #[.val (.ref a1), .val (.ref a2), .val (.ref a2)] [])) _
        refine own_back (fun t k => XS.iconst X817.here hx rfl (hb hby oeq_d53) k) ?_
        show OwnGo p e below (T817.setTop (mkF m 54 #[.val (.ref a1), .val (.ref a2), .val (.ref a2)] [(.int (0 : Int32))])) _
        refine own_retN X817 hx Bd.notSynchronized (t := .boolean) (z := (0 : Int32)) Bd.returns (by simp) rfl (hb hby oeq_d54) e817 (Nat.le_of_ble_eq_true rfl) (Nat.le_of_ble_eq_true rfl) ?_
        exact ⟨by simp [he, ha34_815, hc46_818], N812, rfl⟩
    · refine own_back (fun t k => Jvm.RoadKit.acmp (g := (mkF m 34 #[.val (.ref a1), .val (.ref a2), .val (.ref a2)] [(.ref w2), (.ref w1)])) X814 hx rfl rfl rfl (pc0 := 34) (pc' := 53) (same := false) rfl (hb hby oeq_d34) rfl (decide_eq_false fun q => ha34_815 (Value.ref.inj q)) (by decide) (by decide) k) ?_
      show OwnGo p e below (T814.setTop (mkF m 53 #[.val (.ref a1), .val (.ref a2), .val (.ref a2)] [])) _
      refine own_back (fun t k => XS.iconst X814.here hx rfl (hb hby oeq_d53) k) ?_
      show OwnGo p e below (T814.setTop (mkF m 54 #[.val (.ref a1), .val (.ref a2), .val (.ref a2)] [(.int (0 : Int32))])) _
      refine own_retN X814 hx Bd.notSynchronized (t := .boolean) (z := (0 : Int32)) Bd.returns (by simp) rfl (hb hby oeq_d54) e814 (Nat.le_of_ble_eq_true rfl) (Nat.le_of_ble_eq_true rfl) ?_
      exact ⟨by simp [he, ha34_815], N812, rfl⟩
  · obtain ⟨cq819, kq819, q819a, q819b, q819c⟩ := isOf hZ e811 (OwnStr.exa B1)
    obtain ⟨_, _, ⟨T819, L819, k819, n819⟩, -, X819, ⟨Lc819, hQ819, l819, y819, z819⟩, st819⟩ := X811.virtualBack hx (y := (⟨"java/lang/String", "equals", "(Ljava/lang/Object;)Z"⟩ : MethodName)) (z := (⟨"java/lang/String", "equals", "(Ljava/lang/Object;)Z"⟩ : MethodName)) hown (mvT hZ (hw _ (List.mem_of_getElem? (i := 100) rfl))) (mvT hZ (hw _ (List.mem_of_getElem? (i := 101) rfl))) (notFace_of_selects (args := #[]) (mvT hZ (hw _ (List.mem_of_getElem? (i := 103) rfl)))) (mvT hZ (hw _ (List.mem_of_getElem? (i := 103) rfl))) (mvT hZ (hw _ (List.mem_of_getElem? (i := 102) rfl))) (by decide) (own_backN (W := 0) (rm_seq l Z a0 hw [] s1 s2 bs ds cz h0 n0 Z0 OL B1 B2 SC hcz) hZ (hw _ (List.mem_of_getElem? (i := 104) rfl)) (hw _ (List.mem_of_getElem? (i := 6) rfl)) (by decide) (by decide)) q819a q819c (g := (mkF m 20 #[.val (.ref a1), .val (.ref a2), .val (.ref a2)] [(.ref s2), (.ref s1)])) rfl (by rw [hml]; rfl) (Steps.refl _) (argsL := [(.ref s2)]) (rest := []) (lenOf oeq_pd0 rfl) rfl (by show 2 * 0 + _ ≤ _; exact Nat.le_of_eq rfl) (hb hby oeq_d20) (fun _ _ => ⟨rfl, e811, Nat.le_of_ble_eq_true rfl, Nat.le_of_ble_eq_true rfl⟩)
    dsimp only [Pt.U, Pt.locs, Pt.cells, Pt.slots] at X819 l819 y819 z819 st819 hQ819
    subst l819 y819 z819
    rw [if_neg he] at hQ819
    obtain ⟨rfl, N819q, hh819⟩ := hQ819
    refine own_seq st819 ?_
    have N819 := Fr.app N0 N819q
    show OwnGo p e below (T819.setTop (mkF m 23 #[.val (.ref a1), .val (.ref a2), .val (.ref a2)] [(.int (0 : Int32))])) _
    refine own_back (fun t k => XS.ifYes X819.here hx rfl (pc0 := 23) (pc' := 53) rfl (hb hby oeq_d23) rfl (Jvm.Free.XT.i0_eq_t (by decide)) (by decide) (by decide) k) ?_
    show OwnGo p e below (T819.setTop (mkF m 53 #[.val (.ref a1), .val (.ref a2), .val (.ref a2)] [])) _
    refine own_back (fun t k => XS.iconst X819.here hx rfl (hb hby oeq_d53) k) ?_
    show OwnGo p e below (T819.setTop (mkF m 54 #[.val (.ref a1), .val (.ref a2), .val (.ref a2)] [(.int (0 : Int32))])) _
    refine own_retN X819 hx Bd.notSynchronized (t := .boolean) (z := (0 : Int32)) Bd.returns (by simp) rfl (hb hby oeq_d54) hh819 (Nat.le_of_ble_eq_true rfl) (Nat.le_of_ble_eq_true rfl) ?_
    exact ⟨by simp [he], N819, rfl⟩
theorem oeqn_d0 : decode prog_22_method_5_code 0 = .ok (.aload_n 1, 1) := by decide +kernel
theorem oeqn_d1 : decode prog_22_method_5_code 1 = .ok (.instanceof 18, 3) := by decide +kernel
theorem oeqn_d4 : decode prog_22_method_5_code 4 = .ok (.ifCond .eq 49, 3) := by decide +kernel
theorem oeqn_d53 : decode prog_22_method_5_code 53 = .ok (.iconst 0, 1) := by decide +kernel
theorem oeqn_d54 : decode prog_22_method_5_code 54 = .ok (.ireturn, 1) := by decide +kernel
theorem oeqn_pn : plainName "com/example/lease/lease/OwnerCount" = true := by first | (simp [plainName, overriddenIn]; done) | decide +kernel
theorem oeqn_ef (m : MethodId) (x0 : Addr) : entryFrame m #[(.ref x0), .null] 3 = mkF m 0 #[.val (.ref x0), .val .null, .unset] [] := by first | (simp [entryFrame, mkF, argsToLocals, Value.category]; done) | rfl
set_option maxRecDepth 65536 in
set_option maxHeartbeats 40000000 in
theorem rm_oeqn (l : Launch) (Z : State) (a0 : Array Value) (hw : ∀ d ∈ tables_1, d.before a0 Z = true) (ws : List Jvm.Cond) (a1 : Addr) (h0 : Heap) (n0 : Nat) (Z0 : n0 ≤ h0.size)  :
    MetFree l (⟨"com/example/lease/lease/OwnerCount", "equals", "(Ljava/lang/Object;)Z"⟩ : MethodName) (head1 (Jvm.Cond.code (⟨"com/example/lease/lease/OwnerCount", "equals", "(Ljava/lang/Object;)Z"⟩ : MethodName) prog_22_method_5_code 3 (some .boolean) :: ws) ({ frames := 0, cells := 0, slots := 0, locals := 0 } : Room)) (fun a U => a = #[(.ref a1), .null] ∧ Z.Warmed39 U.vm ∧ U.heap = h0) (fun _ _ _ _ _ => True) (fun _ U o U' => OwnEnd U (fun v h L => v = some (.int 0) ∧ Fr n0 L ∧ h = h0) ({ frames := 0, cells := 0, slots := 0, locals := 0 } : Room).cells ({ frames := 0, cells := 0, slots := 0, locals := 0 } : Room).slots o U') := by
  refine MetFree.of_bodySF (plainFor_of_name oeqn_pn) hisR ?_
  intro p e s m args below meth c s₁ Bd hml0 hP hK
  obtain ⟨rfl, hZ, hh⟩ := hP
  have hx := Bd.exec
  have hby := Bd.bytes
  have hml : c.maxLocals = 3 := hml0
  have hown : s.vm.findClass "com/example/lease/lease/OwnerCount" = some m.cls := findClass_of_methodNamed Bd.named
  have hnm := (name_of_methodNamed Bd.named Bd.method).1
  have X0 : Stand p l e ({ frames := 0, cells := 0, slots := 0, locals := 0 } : Room) s m #[(.ref a1), .null] below meth c s₁ [] 0 0 := Stand.of_body Bd
  have e0 : s₁.heap = h0 := by rw [← hh, Bd.state]; rfl
  have N0 := Fr.nil n0
  have KP0 := Keep.refl h0 []
  refine own_go (Q := (OwnEnd s (fun v h L => v = some (.int 0) ∧ Fr n0 L ∧ h = h0) ({ frames := 0, cells := 0, slots := 0, locals := 0 } : Room).cells ({ frames := 0, cells := 0, slots := 0, locals := 0 } : Room).slots)) ?_
  refine own_back (fun t k => castTop (oeqn_ef m a1) k) ?_
  show OwnGo p e below (s₁.setTop (mkF m 0 #[.val (.ref a1), .val .null, .unset] [])) _
  refine own_back (fun t k => XS.aloadN X0.here hx rfl (hb hby oeqn_d0) rfl rfl k) ?_
  show OwnGo p e below (s₁.setTop (mkF m 1 #[.val (.ref a1), .val .null, .unset] [.null])) _
  refine own_back (fun t k => X0.instanceofNull hx (g := (mkF m 1 #[.val (.ref a1), .val .null, .unset] [.null])) rfl rfl (hb hby oeqn_d1) t k) ?_
  show OwnGo p e below (s₁.setTop (mkF m 4 #[.val (.ref a1), .val .null, .unset] [(.int (0 : Int32))])) _
  refine own_back (fun t k => XS.ifYes X0.here hx rfl (pc0 := 4) (pc' := 53) rfl (hb hby oeqn_d4) rfl (Jvm.Free.XT.i0_eq_t (by decide)) (by decide) (by decide) k) ?_
  show OwnGo p e below (s₁.setTop (mkF m 53 #[.val (.ref a1), .val .null, .unset] [])) _
  refine own_back (fun t k => XS.iconst X0.here hx rfl (hb hby oeqn_d53) k) ?_
  show OwnGo p e below (s₁.setTop (mkF m 54 #[.val (.ref a1), .val .null, .unset] [(.int (0 : Int32))])) _
  refine own_retN X0 hx Bd.notSynchronized (t := .boolean) (z := (0 : Int32)) Bd.returns (by simp) rfl (hb hby oeqn_d54) e0 (Nat.le_of_ble_eq_true rfl) (Nat.le_of_ble_eq_true rfl) ?_
  exact ⟨rfl, N0, rfl⟩
theorem oeqs_d0 : decode prog_22_method_5_code 0 = .ok (.aload_n 1, 1) := by decide +kernel
theorem oeqs_d1 : decode prog_22_method_5_code 1 = .ok (.instanceof 18, 3) := by decide +kernel
theorem oeqs_d4 : decode prog_22_method_5_code 4 = .ok (.ifCond .eq 49, 3) := by decide +kernel
theorem oeqs_d53 : decode prog_22_method_5_code 53 = .ok (.iconst 0, 1) := by decide +kernel
theorem oeqs_d54 : decode prog_22_method_5_code 54 = .ok (.ireturn, 1) := by decide +kernel
theorem oeqs_pn : plainName "com/example/lease/lease/OwnerCount" = true := by first | (simp [plainName, overriddenIn]; done) | decide +kernel
theorem oeqs_ef (m : MethodId) (x0 : Addr) (x1 : Addr) : entryFrame m #[(.ref x0), (.ref x1)] 3 = mkF m 0 #[.val (.ref x0), .val (.ref x1), .unset] [] := by first | (simp [entryFrame, mkF, argsToLocals, Value.category]; done) | rfl
set_option maxRecDepth 65536 in
set_option maxHeartbeats 40000000 in
theorem rm_oeqs (l : Launch) (Z : State) (a0 : Array Value) (hw : ∀ d ∈ tables_1, d.before a0 Z = true) (ws : List Jvm.Cond) (a1 : Addr) (a2 : Addr) (h0 : Heap) (n0 : Nat) (Z0 : n0 ≤ h0.size) (E2 : Exa Z h0 a2 "java/lang/String") :
    MetFree l (⟨"com/example/lease/lease/OwnerCount", "equals", "(Ljava/lang/Object;)Z"⟩ : MethodName) (head1 (Jvm.Cond.code (⟨"com/example/lease/lease/OwnerCount", "equals", "(Ljava/lang/Object;)Z"⟩ : MethodName) prog_22_method_5_code 3 (some .boolean) :: ws) ({ frames := 0, cells := 0, slots := 0, locals := 0 } : Room)) (fun a U => a = #[(.ref a1), (.ref a2)] ∧ Z.Warmed39 U.vm ∧ U.heap = h0) (fun _ _ _ _ _ => True) (fun _ U o U' => OwnEnd U (fun v h L => v = some (.int 0) ∧ Fr n0 L ∧ h = h0) ({ frames := 0, cells := 0, slots := 0, locals := 0 } : Room).cells ({ frames := 0, cells := 0, slots := 0, locals := 0 } : Room).slots o U') := by
  refine MetFree.of_bodySF (plainFor_of_name oeqs_pn) hisR ?_
  intro p e s m args below meth c s₁ Bd hml0 hP hK
  obtain ⟨rfl, hZ, hh⟩ := hP
  have hx := Bd.exec
  have hby := Bd.bytes
  have hml : c.maxLocals = 3 := hml0
  have hown : s.vm.findClass "com/example/lease/lease/OwnerCount" = some m.cls := findClass_of_methodNamed Bd.named
  have hnm := (name_of_methodNamed Bd.named Bd.method).1
  have X0 : Stand p l e ({ frames := 0, cells := 0, slots := 0, locals := 0 } : Room) s m #[(.ref a1), (.ref a2)] below meth c s₁ [] 0 0 := Stand.of_body Bd
  have e0 : s₁.heap = h0 := by rw [← hh, Bd.state]; rfl
  have N0 := Fr.nil n0
  have KP0 := Keep.refl h0 []
  refine own_go (Q := (OwnEnd s (fun v h L => v = some (.int 0) ∧ Fr n0 L ∧ h = h0) ({ frames := 0, cells := 0, slots := 0, locals := 0 } : Room).cells ({ frames := 0, cells := 0, slots := 0, locals := 0 } : Room).slots)) ?_
  refine own_back (fun t k => castTop (oeqs_ef m a1 a2) k) ?_
  show OwnGo p e below (s₁.setTop (mkF m 0 #[.val (.ref a1), .val (.ref a2), .unset] [])) _
  refine own_back (fun t k => XS.aloadN X0.here hx rfl (hb hby oeqs_d0) rfl rfl k) ?_
  show OwnGo p e below (s₁.setTop (mkF m 1 #[.val (.ref a1), .val (.ref a2), .unset] [(.ref a2)])) _
  obtain ⟨T820, X820, e820, st820⟩ := instNo X0 hx hZ hown (hw _ (List.mem_of_getElem? (i := 98) rfl)) e0 E2 (own_noinst (hw _ (List.mem_of_getElem? (i := 131) rfl)) (hw _ (List.mem_of_getElem? (i := 132) rfl)) (hw _ (List.mem_of_getElem? (i := 27) rfl)) (by decide) (by decide)) (g := (mkF m 1 #[.val (.ref a1), .val (.ref a2), .unset] [(.ref a2)])) rfl rfl (hb hby oeqs_d1)
  refine own_back st820 ?_
  show OwnGo p e below (T820.setTop (mkF m 4 #[.val (.ref a1), .val (.ref a2), .unset] [(.int (0 : Int32))])) _
  refine own_back (fun t k => XS.ifYes X820.here hx rfl (pc0 := 4) (pc' := 53) rfl (hb hby oeqs_d4) rfl (Jvm.Free.XT.i0_eq_t (by decide)) (by decide) (by decide) k) ?_
  show OwnGo p e below (T820.setTop (mkF m 53 #[.val (.ref a1), .val (.ref a2), .unset] [])) _
  refine own_back (fun t k => XS.iconst X820.here hx rfl (hb hby oeqs_d53) k) ?_
  show OwnGo p e below (T820.setTop (mkF m 54 #[.val (.ref a1), .val (.ref a2), .unset] [(.int (0 : Int32))])) _
  refine own_retN X820 hx Bd.notSynchronized (t := .boolean) (z := (0 : Int32)) Bd.returns (by simp) rfl (hb hby oeqs_d54) e820 (Nat.le_of_ble_eq_true rfl) (Nat.le_of_ble_eq_true rfl) ?_
  exact ⟨rfl, N0, rfl⟩
theorem own_r255 (x : Int32) : own_r ((x &&& (255 : Int32)).toUInt32.toUInt16.toUInt32.toInt32) := by
  have h := own_c255 x
  have e : nar .char ((x &&& (255 : Int32)).toUInt32.toUInt16.toUInt32.toInt32) = (x &&& (255 : Int32)).toUInt32.toUInt16.toUInt32.toInt32 := by
    show ((x &&& (255 : Int32)).toUInt32.toUInt16.toUInt32.toInt32).toUInt32.toUInt16.toUInt32.toInt32 = _
    rw [i2c_mask, i2c_mask]
  rw [e] at h
  exact h
theorem own_rem3 (x : Int32) : ∃ nn : Nat, nn ≤ 2 ∧ ((x &&& (3 : Int32)) % (3 : Int32)) = Int32.ofNat nn := by
  have q := c_mask x 3 2 (by decide) (by decide)
  have r := (c_irem (x &&& 3) 3 3 rfl).1
  refine ⟨((x &&& (3 : Int32)) % (3 : Int32)).toInt.toNat, ?_, ?_⟩
  · omega
  · refine Int32.toInt_inj.mp ?_
    rw [own_i32 (by omega)]
    omega
theorem own_and3n (x : Int32) : ∃ kk : Nat, kk ≤ 3 ∧ (x &&& (3 : Int32)) = Int32.ofNat kk := by
  have q := c_mask x 3 2 (by decide) (by decide)
  refine ⟨(x &&& (3 : Int32)).toInt.toNat, ?_, ?_⟩
  · omega
  · refine Int32.toInt_inj.mp ?_
    rw [own_i32 (by omega)]
    omega
theorem own_bin {x y : Int32} (h : own_r x) (g : own_r y) (e : own_b x = own_b y) : x = y := by
  have e' : (nar .char x).toInt8.toInt32 = (nar .char y).toInt8.toInt32 := e
  rw [own_nar h, own_nar g] at e'
  obtain ⟨h1, h2⟩ := h
  obtain ⟨g1, g2⟩ := g
  rw [Int32.lt_iff_toInt_lt] at h1 h2 g1 g2
  have z : (0 : Int32).toInt = 0 := rfl
  have z2 : (255 : Int32).toInt = 255 := rfl
  have b1 := c_i2b x
  have b2 := c_i2b y
  have e2 := congrArg Int32.toInt e'
  exact Int32.toInt_inj.mp (by omega)
theorem own_Lg {nn mm : Nat} {x0 x1 y0 y1 : Int32} (hn : nn ≤ 2) (hm : mm ≤ 2) : ([x0, x1] : List Int32).take nn = ([y0, y1] : List Int32).take mm ↔ (nn = mm ∧ (nn < 1 ∨ x0 = y0) ∧ (nn < 2 ∨ x1 = y1)) := by
  have a : nn = 0 ∨ nn = 1 ∨ nn = 2 := by omega
  have b : mm = 0 ∨ mm = 1 ∨ mm = 2 := by omega
  rcases a with rfl | rfl | rfl <;> rcases b with rfl | rfl | rfl <;> simp
theorem own_Leq {nn mm : Nat} {c0 c1 d0 d1 : Int32} (hn : nn ≤ 2) (hm : mm ≤ 2) (r0 : own_r c0) (r1 : own_r c1) (q0 : own_r d0) (q1 : own_r d1) : own_L nn c0 c1 = own_L mm d0 d1 ↔ (nn = mm ∧ (nn < 1 ∨ c0 = d0) ∧ (nn < 2 ∨ c1 = d1)) := by
  have g := own_Lg (nn := nn) (mm := mm) (x0 := own_b c0) (x1 := own_b c1) (y0 := own_b d0) (y1 := own_b d1) hn hm
  constructor
  · intro e
    obtain ⟨g1, g2, g3⟩ := g.mp e
    exact ⟨g1, g2.imp id (own_bin r0 q0), g3.imp id (own_bin r1 q1)⟩
  · rintro ⟨g1, g2, g3⟩
    exact g.mpr ⟨g1, g2.imp id (fun z => by rw [z]), g3.imp id (fun z => by rw [z])⟩
theorem own_bll (c0 c1 : Int32) {nn : Nat} (hn : nn ≤ 2) : (own_L nn c0 c1).length ≤ 2 := by
  rw [own_L, List.length_take]
  exact Nat.min_le_right _ _
theorem own_z0 {k : Int32} {P : Prop} [Decidable P] (h : k = (if P then (1 : Int32) else 0)) (q : k = 0) : ¬ P := fun z => by
  rw [h, if_pos z] at q
  exact absurd q (by decide)
theorem own_z1 {k : Int32} {P : Prop} [Decidable P] (h : k = (if P then (1 : Int32) else 0)) (q : ¬ k = 0) : P := Decidable.byContradiction fun z => q (by rw [h, if_neg z])
theorem own_ltn {i n : Nat} (hi : i < 2 ^ 31) (hn : n < 2 ^ 31) (h : Int32.ofNat i < Int32.ofNat n) : i < n := by
  rw [Int32.lt_iff_toInt_lt, own_i32 hi, own_i32 hn] at h
  omega
theorem own_stE {Z : State} {h : Heap} {C : String} {wP wL wC wF : Addr} {k : Nat} (a : Exa Z h wP C) (b : Exa Z h wL C) (c : Exa Z h wC C) (d : Exa Z h wF C) : Exa Z h (own_st wP wL wC wF k) C := by
  unfold own_st
  split
  · exact a
  · split
    · exact b
    · split
      · exact c
      · exact d
theorem own_stI {wP wL wC wF : Addr} (n1 : wP ≠ wL) (n2 : wP ≠ wC) (n3 : wP ≠ wF) (n4 : wL ≠ wC) (n5 : wL ≠ wF) (n6 : wC ≠ wF) {i j : Nat} (hi : i ≤ 3) (hj : j ≤ 3) (e : own_st wP wL wC wF i = own_st wP wL wC wF j) : i = j := by
  have a : i = 0 ∨ i = 1 ∨ i = 2 ∨ i = 3 := by omega
  have b : j = 0 ∨ j = 1 ∨ j = 2 ∨ j = 3 := by omega
  rcases a with rfl | rfl | rfl | rfl <;> rcases b with rfl | rfl | rfl | rfl <;> first | rfl | (exfalso; simp [own_st] at e; first | exact n1 e | exact n2 e | exact n3 e | exact n4 e | exact n5 e | exact n6 e | exact n1 e.symm | exact n2 e.symm | exact n3 e.symm | exact n4 e.symm | exact n5 e.symm | exact n6 e.symm)
theorem own_isw {a b : List Int32} {c d : Addr} {e f : Int64} : (if b = a ∧ d = c ∧ f = e then (1 : Int32) else 0) = (if a = b ∧ c = d ∧ e = f then (1 : Int32) else 0) := by
  by_cases h : a = b ∧ c = d ∧ e = f
  · rw [if_pos h, if_pos ⟨h.1.symm, h.2.1.symm, h.2.2.symm⟩]
  · rw [if_neg h, if_neg (fun q => h ⟨q.1.symm, q.2.1.symm, q.2.2.symm⟩)]
theorem lw_pn : plainName "com/example/lease/lease/OwnerCountEqualsPinLaw" = true := by first | (simp [plainName, overriddenIn]; done) | decide +kernel
theorem lw_pd0 : parseMethodDescriptor "(ICC)Ljava/lang/String;" = some ⟨[.int, .char, .char], some (.object "java/lang/String")⟩ := by decide +kernel
theorem lw_pd1 : parseMethodDescriptor "(I)Lcom/example/lease/lease/PartitionStatus;" = some ⟨[.int], some (.object "com/example/lease/lease/PartitionStatus")⟩ := by decide +kernel
theorem lw_pd2 : parseMethodDescriptor "(Ljava/lang/String;Lcom/example/lease/lease/PartitionStatus;J)V" = some ⟨[(.object "java/lang/String"), (.object "com/example/lease/lease/PartitionStatus"), .long], none⟩ := by decide +kernel
theorem lw_pd3 : parseMethodDescriptor "(Ljava/lang/Object;)Z" = some ⟨[(.object "java/lang/Object")], some .boolean⟩ := by decide +kernel
theorem lw_ef (m : MethodId) (x0 : Int32) (x1 : Int32) (x2 : Int64) (x3 : Int64) (x4 : Int32) : entryFrame m #[(.int x0), (.int x1), (.long x2), (.long x3), (.int x4)] maxLocals = mkF m 0 #[.val (.int x0), .val (.int x1), .val (.long x2), .second, .val (.long x3), .second, .val (.int x4), .unset, .unset, .unset, .unset, .unset, .unset, .unset, .unset, .unset, .unset, .unset, .unset, .unset, .unset, .unset, .unset, .unset, .unset, .unset] [] := by first | (simp [entryFrame, mkF, argsToLocals, Value.category, maxLocals]; done) | rfl
set_option maxRecDepth 65536 in
set_option maxHeartbeats 40000000 in
theorem rm_law (l : Launch) (Z : State) (a0 : Array Value) (hw : ∀ d ∈ tables_1, d.before a0 Z = true) (ws : List Jvm.Cond) (p1 : Int32) (p2 : Int32) (p3 : Int64) (p4 : Int64) (p5 : Int32) (wP : Addr) (wL : Addr) (wC : Addr) (wF : Addr) (w8 : Addr) (cz : Int32) (h0 : Heap) (n0 : Nat) (Z0 : n0 ≤ h0.size) (OL : Old Z n0 h0) (SP : Sta Z Z.heap "com/example/lease/lease/PartitionStatus" "PENDING" "Lcom/example/lease/lease/PartitionStatus;" (.ref wP)) (SL : Sta Z Z.heap "com/example/lease/lease/PartitionStatus" "LEASED" "Lcom/example/lease/lease/PartitionStatus;" (.ref wL)) (SC_ : Sta Z Z.heap "com/example/lease/lease/PartitionStatus" "COMPLETED" "Lcom/example/lease/lease/PartitionStatus;" (.ref wC)) (SF_ : Sta Z Z.heap "com/example/lease/lease/PartitionStatus" "FAILED" "Lcom/example/lease/lease/PartitionStatus;" (.ref wF)) (EP : Exa Z Z.heap wP "com/example/lease/lease/PartitionStatus") (EL_ : Exa Z Z.heap wL "com/example/lease/lease/PartitionStatus") (EC_ : Exa Z Z.heap wC "com/example/lease/lease/PartitionStatus") (EF_ : Exa Z Z.heap wF "com/example/lease/lease/PartitionStatus") (d1_ : wP ≠ wL) (d2_ : wP ≠ wC) (d3_ : wP ≠ wF) (d4_ : wL ≠ wC) (d5_ : wL ≠ wF) (d6_ : wC ≠ wF) (SU : Sta Z Z.heap "java/nio/charset/StandardCharsets" "UTF_8" "Ljava/nio/charset/Charset;" (.ref w8)) (SI : Sta Z Z.heap "sun/nio/cs/UTF_8" "INSTANCE" "Lsun/nio/cs/UTF_8;" (.ref w8)) (SC : Sta Z Z.heap "java/lang/String" "COMPACT_STRINGS" "Z" (.int cz)) (hcz : ¬ cz = 0) :
    MetFree l x (head1 (Jvm.Cond.code x code maxLocals ret :: ws) room_1) (fun a U => a = #[(.int p1), (.int p2), (.long p3), (.long p4), (.int p5)] ∧ Z.Warmed39 U.vm ∧ U.heap = h0 ∧ CHv Z own_EL U.vm h0 ∧ ∀ x ∈ ([] : List Addr), Safe Z own_EL U.vm h0 x) (fun _ _ _ _ _ => True) (fun _ U o U' => OwnEndW Z own_EL U (fun v h L => v = some (.int 1) ∧ Fr n0 L) room_1.cells room_1.slots o U') := by
  refine MetFree.of_bodySF (plainFor_of_name lw_pn) hisR ?_
  intro p e s m args below meth c s₁ Bd hml0 hP hK
  obtain ⟨rfl, hZ, hh, hCH, hSL⟩ := hP
  have hx := Bd.exec
  have hby := Bd.bytes
  have hml : c.maxLocals = 26 := hml0
  have hown : s.vm.findClass "com/example/lease/lease/OwnerCountEqualsPinLaw" = some m.cls := findClass_of_methodNamed Bd.named
  have hnm := (name_of_methodNamed Bd.named Bd.method).1
  have X0 : Stand p l e room_1 (s.setVm s.vm) m #[(.int p1), (.int p2), (.long p3), (.long p4), (.int p5)] below meth c s₁ [] 0 0 := Stand.of_body Bd
  have e0 : s₁.heap = h0 := by rw [← hh, Bd.state]; rfl
  have N0 := Fr.nil n0
  have KP0 := Keep.refl h0 []
  have hown : (s.setVm s.vm).vm.findClass "com/example/lease/lease/OwnerCountEqualsPinLaw" = some m.cls := hown
  have hZ : Z.Warmed39 (s.setVm s.vm).vm := hZ
  have hS0 : s.Since s.vm 0 := (State.WarmedH.refl s).since 0
  have hk0 : 0 ≤ h0.size := Nat.zero_le _
  have CR0 : CHr Z own_EL s.vm h0 s.vm h0 := CHr.refl hCH
  have hEL := own_EW hw
  refine own_go (Q := (OwnEndW Z own_EL s (fun v h L => v = some (.int 1) ∧ Fr n0 L) room_1.cells room_1.slots)) ?_
  refine own_back (fun t k => castTop (lw_ef m p1 p2 p3 p4 p5) k) ?_
  show OwnGo p e below (s₁.setTop (mkF m 0 #[.val (.int p1), .val (.int p2), .val (.long p3), .second, .val (.long p4), .second, .val (.int p5), .unset, .unset, .unset, .unset, .unset, .unset, .unset, .unset, .unset, .unset, .unset, .unset, .unset, .unset, .unset, .unset, .unset, .unset, .unset] [])) _
  refine own_back (fun t k => XS.iloadN X0.here hx rfl (hb hby at_0) rfl k) ?_
  show OwnGo p e below (s₁.setTop (mkF m 1 #[.val (.int p1), .val (.int p2), .val (.long p3), .second, .val (.long p4), .second, .val (.int p5), .unset, .unset, .unset, .unset, .unset, .unset, .unset, .unset, .unset, .unset, .unset, .unset, .unset, .unset, .unset, .unset, .unset, .unset, .unset] [(.int p1)])) _
  refine own_back (fun t k => XS.iconst X0.here hx rfl (hb hby at_1) k) ?_
  show OwnGo p e below (s₁.setTop (mkF m 2 #[.val (.int p1), .val (.int p2), .val (.long p3), .second, .val (.long p4), .second, .val (.int p5), .unset, .unset, .unset, .unset, .unset, .unset, .unset, .unset, .unset, .unset, .unset, .unset, .unset, .unset, .unset, .unset, .unset, .unset, .unset] [(.int (3 : Int32)), (.int p1)])) _
  refine own_back (fun t k => XS.iand X0.here hx rfl (hb hby at_2) rfl k) ?_
  show OwnGo p e below (s₁.setTop (mkF m 3 #[.val (.int p1), .val (.int p2), .val (.long p3), .second, .val (.long p4), .second, .val (.int p5), .unset, .unset, .unset, .unset, .unset, .unset, .unset, .unset, .unset, .unset, .unset, .unset, .unset, .unset, .unset, .unset, .unset, .unset, .unset] [(.int (p1 &&& (3 : Int32)))])) _
  refine own_back (fun t k => XS.iconst X0.here hx rfl (hb hby at_3) k) ?_
  show OwnGo p e below (s₁.setTop (mkF m 4 #[.val (.int p1), .val (.int p2), .val (.long p3), .second, .val (.long p4), .second, .val (.int p5), .unset, .unset, .unset, .unset, .unset, .unset, .unset, .unset, .unset, .unset, .unset, .unset, .unset, .unset, .unset, .unset, .unset, .unset, .unset] [(.int (3 : Int32)), (.int (p1 &&& (3 : Int32)))])) _
  refine own_back (fun t k => iremM X0 hx rfl (hb hby at_4) rfl (by decide) k) ?_
  show OwnGo p e below (s₁.setTop (mkF m 5 #[.val (.int p1), .val (.int p2), .val (.long p3), .second, .val (.long p4), .second, .val (.int p5), .unset, .unset, .unset, .unset, .unset, .unset, .unset, .unset, .unset, .unset, .unset, .unset, .unset, .unset, .unset, .unset, .unset, .unset, .unset] [(.int ((p1 &&& (3 : Int32)) % (3 : Int32)))])) _
  obtain ⟨nn, hn, hne⟩ := own_rem3 p1
  rw [hne]
  show OwnGo p e below (s₁.setTop (mkF m 5 #[.val (.int p1), .val (.int p2), .val (.long p3), .second, .val (.long p4), .second, .val (.int p5), .unset, .unset, .unset, .unset, .unset, .unset, .unset, .unset, .unset, .unset, .unset, .unset, .unset, .unset, .unset, .unset, .unset, .unset, .unset] [(.int (Int32.ofNat nn))])) _
  refine own_back (fun t k => XS.istore X0.here hx rfl (hb hby at_5) rfl (l' := #[.val (.int p1), .val (.int p2), .val (.long p3), .second, .val (.long p4), .second, .val (.int p5), .val (.int (Int32.ofNat nn)), .unset, .unset, .unset, .unset, .unset, .unset, .unset, .unset, .unset, .unset, .unset, .unset, .unset, .unset, .unset, .unset, .unset, .unset]) rfl k) ?_
  show OwnGo p e below (s₁.setTop (mkF m 7 #[.val (.int p1), .val (.int p2), .val (.long p3), .second, .val (.long p4), .second, .val (.int p5), .val (.int (Int32.ofNat nn)), .unset, .unset, .unset, .unset, .unset, .unset, .unset, .unset, .unset, .unset, .unset, .unset, .unset, .unset, .unset, .unset, .unset, .unset] [])) _
  refine own_back (fun t k => XS.iloadN X0.here hx rfl (hb hby at_7) rfl k) ?_
  show OwnGo p e below (s₁.setTop (mkF m 8 #[.val (.int p1), .val (.int p2), .val (.long p3), .second, .val (.long p4), .second, .val (.int p5), .val (.int (Int32.ofNat nn)), .unset, .unset, .unset, .unset, .unset, .unset, .unset, .unset, .unset, .unset, .unset, .unset, .unset, .unset, .unset, .unset, .unset, .unset] [(.int p1)])) _
  refine own_back (fun t k => XS.iconst X0.here hx rfl (hb hby at_8) k) ?_
  show OwnGo p e below (s₁.setTop (mkF m 9 #[.val (.int p1), .val (.int p2), .val (.long p3), .second, .val (.long p4), .second, .val (.int p5), .val (.int (Int32.ofNat nn)), .unset, .unset, .unset, .unset, .unset, .unset, .unset, .unset, .unset, .unset, .unset, .unset, .unset, .unset, .unset, .unset, .unset, .unset] [(.int (2 : Int32)), (.int p1)])) _
  refine own_back (fun t k => XS.iushr X0.here hx rfl (hb hby at_9) rfl k) ?_
  show OwnGo p e below (s₁.setTop (mkF m 10 #[.val (.int p1), .val (.int p2), .val (.long p3), .second, .val (.long p4), .second, .val (.int p5), .val (.int (Int32.ofNat nn)), .unset, .unset, .unset, .unset, .unset, .unset, .unset, .unset, .unset, .unset, .unset, .unset, .unset, .unset, .unset, .unset, .unset, .unset] [(.int ((p1.toUInt32 >>> ((2 : Int32) &&& 31).toUInt32).toInt32))])) _
  refine own_back (fun t k => XS.sipush X0.here hx rfl (hb hby at_10) k) ?_
  show OwnGo p e below (s₁.setTop (mkF m 13 #[.val (.int p1), .val (.int p2), .val (.long p3), .second, .val (.long p4), .second, .val (.int p5), .val (.int (Int32.ofNat nn)), .unset, .unset, .unset, .unset, .unset, .unset, .unset, .unset, .unset, .unset, .unset, .unset, .unset, .unset, .unset, .unset, .unset, .unset] [(.int (255 : Int32)), (.int ((p1.toUInt32 >>> ((2 : Int32) &&& 31).toUInt32).toInt32))])) _
  refine own_back (fun t k => XS.iand X0.here hx rfl (hb hby at_13) rfl k) ?_
  show OwnGo p e below (s₁.setTop (mkF m 14 #[.val (.int p1), .val (.int p2), .val (.long p3), .second, .val (.long p4), .second, .val (.int p5), .val (.int (Int32.ofNat nn)), .unset, .unset, .unset, .unset, .unset, .unset, .unset, .unset, .unset, .unset, .unset, .unset, .unset, .unset, .unset, .unset, .unset, .unset] [(.int (((p1.toUInt32 >>> ((2 : Int32) &&& 31).toUInt32).toInt32) &&& (255 : Int32)))])) _
  refine own_back (fun t k => XS.i2c X0.here hx rfl (hb hby at_14) rfl k) ?_
  show OwnGo p e below (s₁.setTop (mkF m 15 #[.val (.int p1), .val (.int p2), .val (.long p3), .second, .val (.long p4), .second, .val (.int p5), .val (.int (Int32.ofNat nn)), .unset, .unset, .unset, .unset, .unset, .unset, .unset, .unset, .unset, .unset, .unset, .unset, .unset, .unset, .unset, .unset, .unset, .unset] [(.int (((p1.toUInt32 >>> ((2 : Int32) &&& 31).toUInt32).toInt32) &&& (255 : Int32)).toUInt32.toUInt16.toUInt32.toInt32)])) _
  obtain ⟨c0, hc0, r0⟩ : ∃ z : Int32, z = (((p1.toUInt32 >>> ((2 : Int32) &&& 31).toUInt32).toInt32) &&& (255 : Int32)).toUInt32.toUInt16.toUInt32.toInt32 ∧ own_r z := ⟨_, rfl, own_r255 _⟩
  rw [← hc0]
  show OwnGo p e below (s₁.setTop (mkF m 15 #[.val (.int p1), .val (.int p2), .val (.long p3), .second, .val (.long p4), .second, .val (.int p5), .val (.int (Int32.ofNat nn)), .unset, .unset, .unset, .unset, .unset, .unset, .unset, .unset, .unset, .unset, .unset, .unset, .unset, .unset, .unset, .unset, .unset, .unset] [(.int c0)])) _
  refine own_back (fun t k => XS.istore X0.here hx rfl (hb hby at_15) rfl (l' := #[.val (.int p1), .val (.int p2), .val (.long p3), .second, .val (.long p4), .second, .val (.int p5), .val (.int (Int32.ofNat nn)), .val (.int c0), .unset, .unset, .unset, .unset, .unset, .unset, .unset, .unset, .unset, .unset, .unset, .unset, .unset, .unset, .unset, .unset, .unset]) rfl k) ?_
  show OwnGo p e below (s₁.setTop (mkF m 17 #[.val (.int p1), .val (.int p2), .val (.long p3), .second, .val (.long p4), .second, .val (.int p5), .val (.int (Int32.ofNat nn)), .val (.int c0), .unset, .unset, .unset, .unset, .unset, .unset, .unset, .unset, .unset, .unset, .unset, .unset, .unset, .unset, .unset, .unset, .unset] [])) _
  refine own_back (fun t k => XS.iloadN X0.here hx rfl (hb hby at_17) rfl k) ?_
  show OwnGo p e below (s₁.setTop (mkF m 18 #[.val (.int p1), .val (.int p2), .val (.long p3), .second, .val (.long p4), .second, .val (.int p5), .val (.int (Int32.ofNat nn)), .val (.int c0), .unset, .unset, .unset, .unset, .unset, .unset, .unset, .unset, .unset, .unset, .unset, .unset, .unset, .unset, .unset, .unset, .unset] [(.int p1)])) _
  refine own_back (fun t k => XS.bipush X0.here hx rfl (hb hby at_18) k) ?_
  show OwnGo p e below (s₁.setTop (mkF m 20 #[.val (.int p1), .val (.int p2), .val (.long p3), .second, .val (.long p4), .second, .val (.int p5), .val (.int (Int32.ofNat nn)), .val (.int c0), .unset, .unset, .unset, .unset, .unset, .unset, .unset, .unset, .unset, .unset, .unset, .unset, .unset, .unset, .unset, .unset, .unset] [(.int (10 : Int32)), (.int p1)])) _
  refine own_back (fun t k => XS.iushr X0.here hx rfl (hb hby at_20) rfl k) ?_
  show OwnGo p e below (s₁.setTop (mkF m 21 #[.val (.int p1), .val (.int p2), .val (.long p3), .second, .val (.long p4), .second, .val (.int p5), .val (.int (Int32.ofNat nn)), .val (.int c0), .unset, .unset, .unset, .unset, .unset, .unset, .unset, .unset, .unset, .unset, .unset, .unset, .unset, .unset, .unset, .unset, .unset] [(.int ((p1.toUInt32 >>> ((10 : Int32) &&& 31).toUInt32).toInt32))])) _
  refine own_back (fun t k => XS.sipush X0.here hx rfl (hb hby at_21) k) ?_
  show OwnGo p e below (s₁.setTop (mkF m 24 #[.val (.int p1), .val (.int p2), .val (.long p3), .second, .val (.long p4), .second, .val (.int p5), .val (.int (Int32.ofNat nn)), .val (.int c0), .unset, .unset, .unset, .unset, .unset, .unset, .unset, .unset, .unset, .unset, .unset, .unset, .unset, .unset, .unset, .unset, .unset] [(.int (255 : Int32)), (.int ((p1.toUInt32 >>> ((10 : Int32) &&& 31).toUInt32).toInt32))])) _
  refine own_back (fun t k => XS.iand X0.here hx rfl (hb hby at_24) rfl k) ?_
  show OwnGo p e below (s₁.setTop (mkF m 25 #[.val (.int p1), .val (.int p2), .val (.long p3), .second, .val (.long p4), .second, .val (.int p5), .val (.int (Int32.ofNat nn)), .val (.int c0), .unset, .unset, .unset, .unset, .unset, .unset, .unset, .unset, .unset, .unset, .unset, .unset, .unset, .unset, .unset, .unset, .unset] [(.int (((p1.toUInt32 >>> ((10 : Int32) &&& 31).toUInt32).toInt32) &&& (255 : Int32)))])) _
  refine own_back (fun t k => XS.i2c X0.here hx rfl (hb hby at_25) rfl k) ?_
  show OwnGo p e below (s₁.setTop (mkF m 26 #[.val (.int p1), .val (.int p2), .val (.long p3), .second, .val (.long p4), .second, .val (.int p5), .val (.int (Int32.ofNat nn)), .val (.int c0), .unset, .unset, .unset, .unset, .unset, .unset, .unset, .unset, .unset, .unset, .unset, .unset, .unset, .unset, .unset, .unset, .unset] [(.int (((p1.toUInt32 >>> ((10 : Int32) &&& 31).toUInt32).toInt32) &&& (255 : Int32)).toUInt32.toUInt16.toUInt32.toInt32)])) _
  obtain ⟨c1, hc1, r1⟩ : ∃ z : Int32, z = (((p1.toUInt32 >>> ((10 : Int32) &&& 31).toUInt32).toInt32) &&& (255 : Int32)).toUInt32.toUInt16.toUInt32.toInt32 ∧ own_r z := ⟨_, rfl, own_r255 _⟩
  rw [← hc1]
  show OwnGo p e below (s₁.setTop (mkF m 26 #[.val (.int p1), .val (.int p2), .val (.long p3), .second, .val (.long p4), .second, .val (.int p5), .val (.int (Int32.ofNat nn)), .val (.int c0), .unset, .unset, .unset, .unset, .unset, .unset, .unset, .unset, .unset, .unset, .unset, .unset, .unset, .unset, .unset, .unset, .unset] [(.int c1)])) _
  refine own_back (fun t k => XS.istore X0.here hx rfl (hb hby at_26) rfl (l' := #[.val (.int p1), .val (.int p2), .val (.long p3), .second, .val (.long p4), .second, .val (.int p5), .val (.int (Int32.ofNat nn)), .val (.int c0), .val (.int c1), .unset, .unset, .unset, .unset, .unset, .unset, .unset, .unset, .unset, .unset, .unset, .unset, .unset, .unset, .unset, .unset]) rfl k) ?_
  show OwnGo p e below (s₁.setTop (mkF m 28 #[.val (.int p1), .val (.int p2), .val (.long p3), .second, .val (.long p4), .second, .val (.int p5), .val (.int (Int32.ofNat nn)), .val (.int c0), .val (.int c1), .unset, .unset, .unset, .unset, .unset, .unset, .unset, .unset, .unset, .unset, .unset, .unset, .unset, .unset, .unset, .unset] [])) _
  refine own_back (fun t k => XS.iloadN X0.here hx rfl (hb hby at_28) rfl k) ?_
  show OwnGo p e below (s₁.setTop (mkF m 29 #[.val (.int p1), .val (.int p2), .val (.long p3), .second, .val (.long p4), .second, .val (.int p5), .val (.int (Int32.ofNat nn)), .val (.int c0), .val (.int c1), .unset, .unset, .unset, .unset, .unset, .unset, .unset, .unset, .unset, .unset, .unset, .unset, .unset, .unset, .unset, .unset] [(.int p1)])) _
  refine own_back (fun t k => XS.bipush X0.here hx rfl (hb hby at_29) k) ?_
  show OwnGo p e below (s₁.setTop (mkF m 31 #[.val (.int p1), .val (.int p2), .val (.long p3), .second, .val (.long p4), .second, .val (.int p5), .val (.int (Int32.ofNat nn)), .val (.int c0), .val (.int c1), .unset, .unset, .unset, .unset, .unset, .unset, .unset, .unset, .unset, .unset, .unset, .unset, .unset, .unset, .unset, .unset] [(.int (18 : Int32)), (.int p1)])) _
  refine own_back (fun t k => XS.iushr X0.here hx rfl (hb hby at_31) rfl k) ?_
  show OwnGo p e below (s₁.setTop (mkF m 32 #[.val (.int p1), .val (.int p2), .val (.long p3), .second, .val (.long p4), .second, .val (.int p5), .val (.int (Int32.ofNat nn)), .val (.int c0), .val (.int c1), .unset, .unset, .unset, .unset, .unset, .unset, .unset, .unset, .unset, .unset, .unset, .unset, .unset, .unset, .unset, .unset] [(.int ((p1.toUInt32 >>> ((18 : Int32) &&& 31).toUInt32).toInt32))])) _
  refine own_back (fun t k => XS.iconst X0.here hx rfl (hb hby at_32) k) ?_
  show OwnGo p e below (s₁.setTop (mkF m 33 #[.val (.int p1), .val (.int p2), .val (.long p3), .second, .val (.long p4), .second, .val (.int p5), .val (.int (Int32.ofNat nn)), .val (.int c0), .val (.int c1), .unset, .unset, .unset, .unset, .unset, .unset, .unset, .unset, .unset, .unset, .unset, .unset, .unset, .unset, .unset, .unset] [(.int (3 : Int32)), (.int ((p1.toUInt32 >>> ((18 : Int32) &&& 31).toUInt32).toInt32))])) _
  refine own_back (fun t k => XS.iand X0.here hx rfl (hb hby at_33) rfl k) ?_
  show OwnGo p e below (s₁.setTop (mkF m 34 #[.val (.int p1), .val (.int p2), .val (.long p3), .second, .val (.long p4), .second, .val (.int p5), .val (.int (Int32.ofNat nn)), .val (.int c0), .val (.int c1), .unset, .unset, .unset, .unset, .unset, .unset, .unset, .unset, .unset, .unset, .unset, .unset, .unset, .unset, .unset, .unset] [(.int (((p1.toUInt32 >>> ((18 : Int32) &&& 31).toUInt32).toInt32) &&& (3 : Int32)))])) _
  obtain ⟨kk, hk3, hk3e⟩ := own_and3n ((p1.toUInt32 >>> ((18 : Int32) &&& 31).toUInt32).toInt32)
  rw [hk3e]
  show OwnGo p e below (s₁.setTop (mkF m 34 #[.val (.int p1), .val (.int p2), .val (.long p3), .second, .val (.long p4), .second, .val (.int p5), .val (.int (Int32.ofNat nn)), .val (.int c0), .val (.int c1), .unset, .unset, .unset, .unset, .unset, .unset, .unset, .unset, .unset, .unset, .unset, .unset, .unset, .unset, .unset, .unset] [(.int (Int32.ofNat kk))])) _
  refine own_back (fun t k => XS.istore X0.here hx rfl (hb hby at_34) rfl (l' := #[.val (.int p1), .val (.int p2), .val (.long p3), .second, .val (.long p4), .second, .val (.int p5), .val (.int (Int32.ofNat nn)), .val (.int c0), .val (.int c1), .val (.int (Int32.ofNat kk)), .unset, .unset, .unset, .unset, .unset, .unset, .unset, .unset, .unset, .unset, .unset, .unset, .unset, .unset, .unset]) rfl k) ?_
  show OwnGo p e below (s₁.setTop (mkF m 36 #[.val (.int p1), .val (.int p2), .val (.long p3), .second, .val (.long p4), .second, .val (.int p5), .val (.int (Int32.ofNat nn)), .val (.int c0), .val (.int c1), .val (.int (Int32.ofNat kk)), .unset, .unset, .unset, .unset, .unset, .unset, .unset, .unset, .unset, .unset, .unset, .unset, .unset, .unset, .unset] [])) _
  have tl86_821 : ∀ (Tj821 : State) (hj821 : Heap) (mm : Nat) (d0 : Int32) (d1 : Int32), OwnSt p l e room_1 s m #[(.int p1), (.int p2), (.long p3), (.long p4), (.int p5)] below meth c Z own_EL "com/example/lease/lease/OwnerCountEqualsPinLaw" n0 h0 [] Tj821 hj821 0 0 → (mm ≤ 2) → (own_r d0) → (own_r d1) → OwnGo p e below (Tj821.setTop (mkF m 86 #[.val (.int p1), .val (.int p2), .val (.long p3), .second, .val (.long p4), .second, .val (.int p5), .val (.int (Int32.ofNat nn)), .val (.int c0), .val (.int c1), .val (.int (Int32.ofNat kk)), .val (.int (Int32.ofNat mm)), .val (.int d0), .val (.int d1), .unset, .unset, .unset, .unset, .unset, .unset, .unset, .unset, .unset, .unset, .unset, .unset] [])) (OwnEndW Z own_EL s (fun v h L => v = some (.int 1) ∧ Fr n0 L) room_1.cells room_1.slots) := by
    intro Tj821 hj821 mm d0 d1 HS821 hmm q0 q1
    obtain ⟨vj821, kj821, Lj821, Xj821, ej821, hSj821, hkj821, hZj821, hownj821, CRj821, Oj821, KPj821, Zj821, Nj821⟩ := HS821
    show OwnGo p e below (Tj821.setTop (mkF m 86 #[.val (.int p1), .val (.int p2), .val (.long p3), .second, .val (.long p4), .second, .val (.int p5), .val (.int (Int32.ofNat nn)), .val (.int c0), .val (.int c1), .val (.int (Int32.ofNat kk)), .val (.int (Int32.ofNat mm)), .val (.int d0), .val (.int d1), .unset, .unset, .unset, .unset, .unset, .unset, .unset, .unset, .unset, .unset, .unset, .unset] [])) _
    have tl104_822 : ∀ (Tj822 : State) (hj822 : Heap) (kj : Nat), OwnSt p l e room_1 s m #[(.int p1), (.int p2), (.long p3), (.long p4), (.int p5)] below meth c Z own_EL "com/example/lease/lease/OwnerCountEqualsPinLaw" n0 h0 [] Tj822 hj822 0 0 → (kj ≤ 3) → OwnGo p e below (Tj822.setTop (mkF m 104 #[.val (.int p1), .val (.int p2), .val (.long p3), .second, .val (.long p4), .second, .val (.int p5), .val (.int (Int32.ofNat nn)), .val (.int c0), .val (.int c1), .val (.int (Int32.ofNat kk)), .val (.int (Int32.ofNat mm)), .val (.int d0), .val (.int d1), .unset, .unset, .unset, .unset, .unset, .unset, .unset, .unset, .unset, .unset, .unset, .unset] [(.int (Int32.ofNat kj))])) (OwnEndW Z own_EL s (fun v h L => v = some (.int 1) ∧ Fr n0 L) room_1.cells room_1.slots) := by
      intro Tj822 hj822 kj HS822 hkj
      obtain ⟨vj822, kj822, Lj822, Xj822, ej822, hSj822, hkj822, hZj822, hownj822, CRj822, Oj822, KPj822, Zj822, Nj822⟩ := HS822
      show OwnGo p e below (Tj822.setTop (mkF m 104 #[.val (.int p1), .val (.int p2), .val (.long p3), .second, .val (.long p4), .second, .val (.int p5), .val (.int (Int32.ofNat nn)), .val (.int c0), .val (.int c1), .val (.int (Int32.ofNat kk)), .val (.int (Int32.ofNat mm)), .val (.int d0), .val (.int d1), .unset, .unset, .unset, .unset, .unset, .unset, .unset, .unset, .unset, .unset, .unset, .unset] [(.int (Int32.ofNat kj))])) _
      refine own_back (fun t k => XS.istore Xj822.here hx rfl (hb hby at_104) rfl (l' := #[.val (.int p1), .val (.int p2), .val (.long p3), .second, .val (.long p4), .second, .val (.int p5), .val (.int (Int32.ofNat nn)), .val (.int c0), .val (.int c1), .val (.int (Int32.ofNat kk)), .val (.int (Int32.ofNat mm)), .val (.int d0), .val (.int d1), .val (.int (Int32.ofNat kj)), .unset, .unset, .unset, .unset, .unset, .unset, .unset, .unset, .unset, .unset, .unset]) rfl k) ?_
      show OwnGo p e below (Tj822.setTop (mkF m 106 #[.val (.int p1), .val (.int p2), .val (.long p3), .second, .val (.long p4), .second, .val (.int p5), .val (.int (Int32.ofNat nn)), .val (.int c0), .val (.int c1), .val (.int (Int32.ofNat kk)), .val (.int (Int32.ofNat mm)), .val (.int d0), .val (.int d1), .val (.int (Int32.ofNat kj)), .unset, .unset, .unset, .unset, .unset, .unset, .unset, .unset, .unset, .unset, .unset] [])) _
      have tl119_823 : ∀ (Tj823 : State) (hj823 : Heap) (m2 : Int64), OwnSt p l e room_1 s m #[(.int p1), (.int p2), (.long p3), (.long p4), (.int p5)] below meth c Z own_EL "com/example/lease/lease/OwnerCountEqualsPinLaw" n0 h0 [] Tj823 hj823 0 0 → OwnGo p e below (Tj823.setTop (mkF m 119 #[.val (.int p1), .val (.int p2), .val (.long p3), .second, .val (.long p4), .second, .val (.int p5), .val (.int (Int32.ofNat nn)), .val (.int c0), .val (.int c1), .val (.int (Int32.ofNat kk)), .val (.int (Int32.ofNat mm)), .val (.int d0), .val (.int d1), .val (.int (Int32.ofNat kj)), .unset, .unset, .unset, .unset, .unset, .unset, .unset, .unset, .unset, .unset, .unset] [(.long m2)])) (OwnEndW Z own_EL s (fun v h L => v = some (.int 1) ∧ Fr n0 L) room_1.cells room_1.slots) := by
        intro Tj823 hj823 m2 HS823
        obtain ⟨vj823, kj823, Lj823, Xj823, ej823, hSj823, hkj823, hZj823, hownj823, CRj823, Oj823, KPj823, Zj823, Nj823⟩ := HS823
        show OwnGo p e below (Tj823.setTop (mkF m 119 #[.val (.int p1), .val (.int p2), .val (.long p3), .second, .val (.long p4), .second, .val (.int p5), .val (.int (Int32.ofNat nn)), .val (.int c0), .val (.int c1), .val (.int (Int32.ofNat kk)), .val (.int (Int32.ofNat mm)), .val (.int d0), .val (.int d1), .val (.int (Int32.ofNat kj)), .unset, .unset, .unset, .unset, .unset, .unset, .unset, .unset, .unset, .unset, .unset] [(.long m2)])) _
        refine own_back (fun t k => XS.lstore Xj823.here hx rfl (hb hby at_119) rfl (l' := #[.val (.int p1), .val (.int p2), .val (.long p3), .second, .val (.long p4), .second, .val (.int p5), .val (.int (Int32.ofNat nn)), .val (.int c0), .val (.int c1), .val (.int (Int32.ofNat kk)), .val (.int (Int32.ofNat mm)), .val (.int d0), .val (.int d1), .val (.int (Int32.ofNat kj)), .val (.long m2), .second, .unset, .unset, .unset, .unset, .unset, .unset, .unset, .unset, .unset]) rfl k) ?_
        show OwnGo p e below (Tj823.setTop (mkF m 121 #[.val (.int p1), .val (.int p2), .val (.long p3), .second, .val (.long p4), .second, .val (.int p5), .val (.int (Int32.ofNat nn)), .val (.int c0), .val (.int c1), .val (.int (Int32.ofNat kk)), .val (.int (Int32.ofNat mm)), .val (.int d0), .val (.int d1), .val (.int (Int32.ofNat kj)), .val (.long m2), .second, .unset, .unset, .unset, .unset, .unset, .unset, .unset, .unset, .unset] [])) _
        refine own_back (fun t k => XS.iload Xj823.here hx rfl (hb hby at_121) rfl k) ?_
        show OwnGo p e below (Tj823.setTop (mkF m 123 #[.val (.int p1), .val (.int p2), .val (.long p3), .second, .val (.long p4), .second, .val (.int p5), .val (.int (Int32.ofNat nn)), .val (.int c0), .val (.int c1), .val (.int (Int32.ofNat kk)), .val (.int (Int32.ofNat mm)), .val (.int d0), .val (.int d1), .val (.int (Int32.ofNat kj)), .val (.long m2), .second, .unset, .unset, .unset, .unset, .unset, .unset, .unset, .unset, .unset] [(.int (Int32.ofNat nn))])) _
        refine own_back (fun t k => XS.iload Xj823.here hx rfl (hb hby at_123) rfl k) ?_
        show OwnGo p e below (Tj823.setTop (mkF m 125 #[.val (.int p1), .val (.int p2), .val (.long p3), .second, .val (.long p4), .second, .val (.int p5), .val (.int (Int32.ofNat nn)), .val (.int c0), .val (.int c1), .val (.int (Int32.ofNat kk)), .val (.int (Int32.ofNat mm)), .val (.int d0), .val (.int d1), .val (.int (Int32.ofNat kj)), .val (.long m2), .second, .unset, .unset, .unset, .unset, .unset, .unset, .unset, .unset, .unset] [(.int c0), (.int (Int32.ofNat nn))])) _
        refine own_back (fun t k => XS.iload Xj823.here hx rfl (hb hby at_125) rfl k) ?_
        show OwnGo p e below (Tj823.setTop (mkF m 127 #[.val (.int p1), .val (.int p2), .val (.long p3), .second, .val (.long p4), .second, .val (.int p5), .val (.int (Int32.ofNat nn)), .val (.int c0), .val (.int c1), .val (.int (Int32.ofNat kk)), .val (.int (Int32.ofNat mm)), .val (.int d0), .val (.int d1), .val (.int (Int32.ofNat kj)), .val (.long m2), .second, .unset, .unset, .unset, .unset, .unset, .unset, .unset, .unset, .unset] [(.int c1), (.int c0), (.int (Int32.ofNat nn))])) _
        obtain ⟨_, _, ⟨T824, L824, k824, n824⟩, -, X824, hSn824, hgr824, ⟨Lc824, hQ824, l824, y824, z824, CRn824⟩, st824⟩ := callSS Xj823 hx (y := (⟨"com/example/lease/lease/OwnerCountEqualsPinLaw", "mk", "(ICC)Ljava/lang/String;"⟩ : MethodName)) hownj823 (mvT hZj823 (hw _ (List.mem_of_getElem? (i := 0) rfl))) (mvT hZj823 (hw _ (List.mem_of_getElem? (i := 1) rfl))) (mvT hZj823 (hw _ (List.mem_of_getElem? (i := 2) rfl))) (mvT hZj823 (hw _ (List.mem_of_getElem? (i := 3) rfl))) (by decide) (own_backH (W := 0) (rm_mk l Z a0 hw [] nn c0 c1 cz hj823 n0 Zj823 Oj823 hn r0 r1 SC hcz) hZj823 (hw _ (List.mem_of_getElem? (i := 3) rfl)) (hw _ (List.mem_of_getElem? (i := 2) rfl)) (by decide) (by decide) hEL CRj823.1 sf0 all0) (g := (mkF m 127 #[.val (.int p1), .val (.int p2), .val (.long p3), .second, .val (.long p4), .second, .val (.int p5), .val (.int (Int32.ofNat nn)), .val (.int c0), .val (.int c1), .val (.int (Int32.ofNat kk)), .val (.int (Int32.ofNat mm)), .val (.int d0), .val (.int d1), .val (.int (Int32.ofNat kj)), .val (.long m2), .second, .unset, .unset, .unset, .unset, .unset, .unset, .unset, .unset, .unset] [(.int c1), (.int c0), (.int (Int32.ofNat nn))])) rfl (by rw [hml]; rfl) (argsL := [(.int (Int32.ofNat nn)), (.int c0), (.int c1)]) (rest := []) (lenOf lw_pd0 rfl) rfl (by show 2 * 0 + _ ≤ _; exact Nat.le_of_eq rfl) (hb hby at_127) (fun _ _ => ⟨rfl, ej823, Nat.le_of_ble_eq_true rfl, Nat.le_of_ble_eq_true rfl⟩)
        dsimp only [Pt.U, Pt.locs, Pt.cells, Pt.slots] at X824 l824 y824 z824 st824 hQ824 hSn824 hgr824 CRn824
        subst l824 y824 z824
        obtain ⟨Xr824, hSr824, hZr824, hownr824⟩ := rebS hSj823 (own_hle ej823 hkj823) X824 hSn824 hgr824 hZj823 hownj823
        obtain ⟨am824, rfl, N824q, E824, B824⟩ := hQ824
        refine own_seq st824 ?_
        have N824 := Fr.app Nj823 N824q
        have O825 := Oj823.ext E824
        have KP826 := KPj823.ext E824
        have Zs827 := Nat.le_trans Zj823 E824.1
        have CR828 := CRj823.trans CRn824
        show OwnGo p e below (T824.setTop (mkF m 130 #[.val (.int p1), .val (.int p2), .val (.long p3), .second, .val (.long p4), .second, .val (.int p5), .val (.int (Int32.ofNat nn)), .val (.int c0), .val (.int c1), .val (.int (Int32.ofNat kk)), .val (.int (Int32.ofNat mm)), .val (.int d0), .val (.int d1), .val (.int (Int32.ofNat kj)), .val (.long m2), .second, .unset, .unset, .unset, .unset, .unset, .unset, .unset, .unset, .unset] [(.ref am824)])) _
        refine own_back (fun t k => XS.astore Xr824.here hx rfl (hb hby at_130) rfl rfl (l' := #[.val (.int p1), .val (.int p2), .val (.long p3), .second, .val (.long p4), .second, .val (.int p5), .val (.int (Int32.ofNat nn)), .val (.int c0), .val (.int c1), .val (.int (Int32.ofNat kk)), .val (.int (Int32.ofNat mm)), .val (.int d0), .val (.int d1), .val (.int (Int32.ofNat kj)), .val (.long m2), .second, .val (.ref am824), .unset, .unset, .unset, .unset, .unset, .unset, .unset, .unset]) rfl k) ?_
        show OwnGo p e below (T824.setTop (mkF m 132 #[.val (.int p1), .val (.int p2), .val (.long p3), .second, .val (.long p4), .second, .val (.int p5), .val (.int (Int32.ofNat nn)), .val (.int c0), .val (.int c1), .val (.int (Int32.ofNat kk)), .val (.int (Int32.ofNat mm)), .val (.int d0), .val (.int d1), .val (.int (Int32.ofNat kj)), .val (.long m2), .second, .val (.ref am824), .unset, .unset, .unset, .unset, .unset, .unset, .unset, .unset] [])) _
        refine own_back (fun t k => XS.iload Xr824.here hx rfl (hb hby at_132) rfl k) ?_
        show OwnGo p e below (T824.setTop (mkF m 134 #[.val (.int p1), .val (.int p2), .val (.long p3), .second, .val (.long p4), .second, .val (.int p5), .val (.int (Int32.ofNat nn)), .val (.int c0), .val (.int c1), .val (.int (Int32.ofNat kk)), .val (.int (Int32.ofNat mm)), .val (.int d0), .val (.int d1), .val (.int (Int32.ofNat kj)), .val (.long m2), .second, .val (.ref am824), .unset, .unset, .unset, .unset, .unset, .unset, .unset, .unset] [(.int (Int32.ofNat mm))])) _
        refine own_back (fun t k => XS.iload Xr824.here hx rfl (hb hby at_134) rfl k) ?_
        show OwnGo p e below (T824.setTop (mkF m 136 #[.val (.int p1), .val (.int p2), .val (.long p3), .second, .val (.long p4), .second, .val (.int p5), .val (.int (Int32.ofNat nn)), .val (.int c0), .val (.int c1), .val (.int (Int32.ofNat kk)), .val (.int (Int32.ofNat mm)), .val (.int d0), .val (.int d1), .val (.int (Int32.ofNat kj)), .val (.long m2), .second, .val (.ref am824), .unset, .unset, .unset, .unset, .unset, .unset, .unset, .unset] [(.int d0), (.int (Int32.ofNat mm))])) _
        refine own_back (fun t k => XS.iload Xr824.here hx rfl (hb hby at_136) rfl k) ?_
        show OwnGo p e below (T824.setTop (mkF m 138 #[.val (.int p1), .val (.int p2), .val (.long p3), .second, .val (.long p4), .second, .val (.int p5), .val (.int (Int32.ofNat nn)), .val (.int c0), .val (.int c1), .val (.int (Int32.ofNat kk)), .val (.int (Int32.ofNat mm)), .val (.int d0), .val (.int d1), .val (.int (Int32.ofNat kj)), .val (.long m2), .second, .val (.ref am824), .unset, .unset, .unset, .unset, .unset, .unset, .unset, .unset] [(.int d1), (.int d0), (.int (Int32.ofNat mm))])) _
        obtain ⟨_, _, ⟨T829, L829, k829, n829⟩, -, X829, hSn829, hgr829, ⟨Lc829, hQ829, l829, y829, z829, CRn829⟩, st829⟩ := callSS Xr824 hx (y := (⟨"com/example/lease/lease/OwnerCountEqualsPinLaw", "mk", "(ICC)Ljava/lang/String;"⟩ : MethodName)) hownr824 (mvT hZr824 (hw _ (List.mem_of_getElem? (i := 0) rfl))) (mvT hZr824 (hw _ (List.mem_of_getElem? (i := 1) rfl))) (mvT hZr824 (hw _ (List.mem_of_getElem? (i := 2) rfl))) (mvT hZr824 (hw _ (List.mem_of_getElem? (i := 3) rfl))) (by decide) (own_backH (W := 0) (rm_mk l Z a0 hw [] mm d0 d1 cz T824.heap n0 Zs827 O825 hmm q0 q1 SC hcz) hZr824 (hw _ (List.mem_of_getElem? (i := 3) rfl)) (hw _ (List.mem_of_getElem? (i := 2) rfl)) (by decide) (by decide) hEL CR828.1 sf0 all0) (g := (mkF m 138 #[.val (.int p1), .val (.int p2), .val (.long p3), .second, .val (.long p4), .second, .val (.int p5), .val (.int (Int32.ofNat nn)), .val (.int c0), .val (.int c1), .val (.int (Int32.ofNat kk)), .val (.int (Int32.ofNat mm)), .val (.int d0), .val (.int d1), .val (.int (Int32.ofNat kj)), .val (.long m2), .second, .val (.ref am824), .unset, .unset, .unset, .unset, .unset, .unset, .unset, .unset] [(.int d1), (.int d0), (.int (Int32.ofNat mm))])) rfl (by rw [hml]; rfl) (argsL := [(.int (Int32.ofNat mm)), (.int d0), (.int d1)]) (rest := []) (lenOf lw_pd0 rfl) rfl (by show 2 * 0 + _ ≤ _; exact Nat.le_of_eq rfl) (hb hby at_138) (fun _ _ => ⟨rfl, rfl, Nat.le_of_ble_eq_true rfl, Nat.le_of_ble_eq_true rfl⟩)
        dsimp only [Pt.U, Pt.locs, Pt.cells, Pt.slots] at X829 l829 y829 z829 st829 hQ829 hSn829 hgr829 CRn829
        subst l829 y829 z829
        obtain ⟨Xr829, hSr829, hZr829, hownr829⟩ := rebS hSr824 (own_hle rfl (Nat.le_refl _)) X829 hSn829 hgr829 hZr824 hownr824
        obtain ⟨am829, rfl, N829q, E829, B829⟩ := hQ829
        refine own_seq st829 ?_
        have N829 := Fr.app N824 N829q
        have O830 := O825.ext E829
        have KP831 := KP826.ext E829
        have Zs832 := Nat.le_trans Zs827 E829.1
        have CR833 := CR828.trans CRn829
        have f834 := B824.ext E829
        show OwnGo p e below (T829.setTop (mkF m 141 #[.val (.int p1), .val (.int p2), .val (.long p3), .second, .val (.long p4), .second, .val (.int p5), .val (.int (Int32.ofNat nn)), .val (.int c0), .val (.int c1), .val (.int (Int32.ofNat kk)), .val (.int (Int32.ofNat mm)), .val (.int d0), .val (.int d1), .val (.int (Int32.ofNat kj)), .val (.long m2), .second, .val (.ref am824), .unset, .unset, .unset, .unset, .unset, .unset, .unset, .unset] [(.ref am829)])) _
        refine own_back (fun t k => XS.astore Xr829.here hx rfl (hb hby at_141) rfl rfl (l' := #[.val (.int p1), .val (.int p2), .val (.long p3), .second, .val (.long p4), .second, .val (.int p5), .val (.int (Int32.ofNat nn)), .val (.int c0), .val (.int c1), .val (.int (Int32.ofNat kk)), .val (.int (Int32.ofNat mm)), .val (.int d0), .val (.int d1), .val (.int (Int32.ofNat kj)), .val (.long m2), .second, .val (.ref am824), .val (.ref am829), .unset, .unset, .unset, .unset, .unset, .unset, .unset]) rfl k) ?_
        show OwnGo p e below (T829.setTop (mkF m 143 #[.val (.int p1), .val (.int p2), .val (.long p3), .second, .val (.long p4), .second, .val (.int p5), .val (.int (Int32.ofNat nn)), .val (.int c0), .val (.int c1), .val (.int (Int32.ofNat kk)), .val (.int (Int32.ofNat mm)), .val (.int d0), .val (.int d1), .val (.int (Int32.ofNat kj)), .val (.long m2), .second, .val (.ref am824), .val (.ref am829), .unset, .unset, .unset, .unset, .unset, .unset, .unset] [])) _
        obtain ⟨T835, h835, X835, e835, E835, A835, D835, -, st835⟩ := newO Xr829 hx hZr829 hownr829 (hw _ (List.mem_of_getElem? (i := 26) rfl)) (hw _ (List.mem_of_getElem? (i := 27) rfl)) (hw _ (List.mem_of_getElem? (i := 28) rfl)) rfl (g := (mkF m 143 #[.val (.int p1), .val (.int p2), .val (.long p3), .second, .val (.long p4), .second, .val (.int p5), .val (.int (Int32.ofNat nn)), .val (.int c0), .val (.int c1), .val (.int (Int32.ofNat kk)), .val (.int (Int32.ofNat mm)), .val (.int d0), .val (.int d1), .val (.int (Int32.ofNat kj)), .val (.long m2), .second, .val (.ref am824), .val (.ref am829), .unset, .unset, .unset, .unset, .unset, .unset, .unset] [])) rfl (hb hby at_143) (Nat.le_of_ble_eq_true rfl) (Nat.le_of_ble_eq_true rfl)
        obtain ⟨b835, g835⟩ : ∃ z, z = T829.heap.size := ⟨_, rfl⟩
        have ge836 : n0 ≤ b835 := Nat.le_trans Zs832 (Nat.le_of_eq g835.symm)
        have sz837 : h0.size ≤ b835 := Nat.le_trans KP831.1 (Nat.le_of_eq g835.symm)
        rw [← g835] at A835 D835 st835
        have O838 := O830.ext E835
        have KP839 := KP831.ext E835
        have Zs840 := Nat.le_trans Zs832 E835.1
        have CR841 := CR833.trans (CHr.ext E835 CR833.1)
        have hk842 := Nat.le_trans (Nat.le_refl _) E835.1
        have f843 := f834.ext E835
        have f844 := B829.ext E835
        have F845 : Fld Z h835 b835 "com/example/lease/lease/OwnerCount" "owner" "Ljava/lang/String;" .null := D835 (Or.inr (hw _ (List.mem_of_getElem? (i := 46) rfl))) (ty := (.object "java/lang/String")) (by decide)
        have F846 : Fld Z h835 b835 "com/example/lease/lease/OwnerCount" "ownerUtf8" "[B" .null := D835 (Or.inr (hw _ (List.mem_of_getElem? (i := 85) rfl))) (ty := (.array .byte)) (by decide)
        have F847 : Fld Z h835 b835 "com/example/lease/lease/OwnerCount" "status" "Lcom/example/lease/lease/PartitionStatus;" .null := D835 (Or.inr (hw _ (List.mem_of_getElem? (i := 90) rfl))) (ty := (.object "com/example/lease/lease/PartitionStatus")) (by decide)
        have F848 : Fld Z h835 b835 "com/example/lease/lease/OwnerCount" "count" "J" (.long (0 : Int64)) := D835 (Or.inr (hw _ (List.mem_of_getElem? (i := 92) rfl))) (ty := .long) (by decide)
        have sf849 := Safe.ext E835 CR833.1 (Safe.new (Nat.le_of_eq g835.symm))
        refine own_back st835 ?_
        show OwnGo p e below (T835.setTop (mkF m 146 #[.val (.int p1), .val (.int p2), .val (.long p3), .second, .val (.long p4), .second, .val (.int p5), .val (.int (Int32.ofNat nn)), .val (.int c0), .val (.int c1), .val (.int (Int32.ofNat kk)), .val (.int (Int32.ofNat mm)), .val (.int d0), .val (.int d1), .val (.int (Int32.ofNat kj)), .val (.long m2), .second, .val (.ref am824), .val (.ref am829), .unset, .unset, .unset, .unset, .unset, .unset, .unset] [(.ref b835)])) _
        refine own_back (fun t k => XS.dup X835.here hx rfl (hb hby at_146) rfl rfl k) ?_
        show OwnGo p e below (T835.setTop (mkF m 147 #[.val (.int p1), .val (.int p2), .val (.long p3), .second, .val (.long p4), .second, .val (.int p5), .val (.int (Int32.ofNat nn)), .val (.int c0), .val (.int c1), .val (.int (Int32.ofNat kk)), .val (.int (Int32.ofNat mm)), .val (.int d0), .val (.int d1), .val (.int (Int32.ofNat kj)), .val (.long m2), .second, .val (.ref am824), .val (.ref am829), .unset, .unset, .unset, .unset, .unset, .unset, .unset] [(.ref b835), (.ref b835)])) _
        refine own_back (fun t k => XS.aload X835.here hx rfl (hb hby at_147) rfl rfl k) ?_
        show OwnGo p e below (T835.setTop (mkF m 149 #[.val (.int p1), .val (.int p2), .val (.long p3), .second, .val (.long p4), .second, .val (.int p5), .val (.int (Int32.ofNat nn)), .val (.int c0), .val (.int c1), .val (.int (Int32.ofNat kk)), .val (.int (Int32.ofNat mm)), .val (.int d0), .val (.int d1), .val (.int (Int32.ofNat kj)), .val (.long m2), .second, .val (.ref am824), .val (.ref am829), .unset, .unset, .unset, .unset, .unset, .unset, .unset] [(.ref am824), (.ref b835), (.ref b835)])) _
        refine own_back (fun t k => XS.iload X835.here hx rfl (hb hby at_149) rfl k) ?_
        show OwnGo p e below (T835.setTop (mkF m 151 #[.val (.int p1), .val (.int p2), .val (.long p3), .second, .val (.long p4), .second, .val (.int p5), .val (.int (Int32.ofNat nn)), .val (.int c0), .val (.int c1), .val (.int (Int32.ofNat kk)), .val (.int (Int32.ofNat mm)), .val (.int d0), .val (.int d1), .val (.int (Int32.ofNat kj)), .val (.long m2), .second, .val (.ref am824), .val (.ref am829), .unset, .unset, .unset, .unset, .unset, .unset, .unset] [(.int (Int32.ofNat kk)), (.ref am824), (.ref b835), (.ref b835)])) _
        obtain ⟨_, _, ⟨T850, L850, k850, n850⟩, -, X850, ⟨Lc850, hQ850, l850, y850, z850⟩, st850⟩ := Jvm.LawKit.callS X835 hx (y := (⟨"com/example/lease/lease/OwnerCountEqualsPinLaw", "st", "(I)Lcom/example/lease/lease/PartitionStatus;"⟩ : MethodName)) hownr829 (mvT hZr829 (hw _ (List.mem_of_getElem? (i := 29) rfl))) (mvT hZr829 (hw _ (List.mem_of_getElem? (i := 30) rfl))) (mvT hZr829 (hw _ (List.mem_of_getElem? (i := 2) rfl))) (mvT hZr829 (hw _ (List.mem_of_getElem? (i := 31) rfl))) (by decide) (own_backN (W := 3) (rm_st l Z a0 hw [] kk wP wL wC wF h835 n0 Zs840 O838 hk3 SP SL SC_ SF_) hZr829 (hw _ (List.mem_of_getElem? (i := 31) rfl)) (hw _ (List.mem_of_getElem? (i := 2) rfl)) (by decide) (by decide)) (g := (mkF m 151 #[.val (.int p1), .val (.int p2), .val (.long p3), .second, .val (.long p4), .second, .val (.int p5), .val (.int (Int32.ofNat nn)), .val (.int c0), .val (.int c1), .val (.int (Int32.ofNat kk)), .val (.int (Int32.ofNat mm)), .val (.int d0), .val (.int d1), .val (.int (Int32.ofNat kj)), .val (.long m2), .second, .val (.ref am824), .val (.ref am829), .unset, .unset, .unset, .unset, .unset, .unset, .unset] [(.int (Int32.ofNat kk)), (.ref am824), (.ref b835), (.ref b835)])) rfl (by rw [hml]; rfl) (argsL := [(.int (Int32.ofNat kk))]) (rest := [(.ref am824), (.ref b835), (.ref b835)]) (lenOf lw_pd1 rfl) rfl (by show 2 * 0 + _ ≤ _; exact Nat.le_of_eq rfl) (hb hby at_151) (fun _ _ => ⟨rfl, e835, Nat.le_of_ble_eq_true rfl, Nat.le_of_ble_eq_true rfl⟩)
        dsimp only [Pt.U, Pt.locs, Pt.cells, Pt.slots] at X850 l850 y850 z850 st850 hQ850
        subst l850 y850 z850
        obtain ⟨rfl, N850q, hh850⟩ := hQ850
        refine own_back st850 ?_
        have N850 := Fr.app N829 N850q
        show OwnGo p e below (T850.setTop (mkF m 154 #[.val (.int p1), .val (.int p2), .val (.long p3), .second, .val (.long p4), .second, .val (.int p5), .val (.int (Int32.ofNat nn)), .val (.int c0), .val (.int c1), .val (.int (Int32.ofNat kk)), .val (.int (Int32.ofNat mm)), .val (.int d0), .val (.int d1), .val (.int (Int32.ofNat kj)), .val (.long m2), .second, .val (.ref am824), .val (.ref am829), .unset, .unset, .unset, .unset, .unset, .unset, .unset] [(.ref (own_st wP wL wC wF kk)), (.ref am824), (.ref b835), (.ref b835)])) _
        refine own_back (fun t k => XS.lloadN X850.here hx rfl (hb hby at_154) rfl k) ?_
        show OwnGo p e below (T850.setTop (mkF m 155 #[.val (.int p1), .val (.int p2), .val (.long p3), .second, .val (.long p4), .second, .val (.int p5), .val (.int (Int32.ofNat nn)), .val (.int c0), .val (.int c1), .val (.int (Int32.ofNat kk)), .val (.int (Int32.ofNat mm)), .val (.int d0), .val (.int d1), .val (.int (Int32.ofNat kj)), .val (.long m2), .second, .val (.ref am824), .val (.ref am829), .unset, .unset, .unset, .unset, .unset, .unset, .unset] [(.long p3), (.ref (own_st wP wL wC wF kk)), (.ref am824), (.ref b835), (.ref b835)])) _
        obtain ⟨_, _, ⟨T851, L851, k851, n851⟩, -, X851, hSn851, hgr851, ⟨Lc851, hQ851, l851, y851, z851, CRn851⟩, st851⟩ := X850.specialBackS hx (y := (⟨"com/example/lease/lease/OwnerCount", "<init>", "(Ljava/lang/String;Lcom/example/lease/lease/PartitionStatus;J)V"⟩ : MethodName)) rfl hownr829 (mvT hZr829 (hw _ (List.mem_of_getElem? (i := 35) rfl))) (mvT hZr829 (hw _ (List.mem_of_getElem? (i := 36) rfl))) (mvT hZr829 (hw _ (List.mem_of_getElem? (i := 37) rfl))) (by decide) (own_backH (W := 1) (rm_ini l Z a0 hw [] b835 am824 (own_st wP wL wC wF kk) p3 (own_L nn c0 c1) w8 cz h835 n0 Zs840 O838 A835 F845 F846 F847 F848 ge836 f843 (own_bll _ _ hn) (own_stE EP EL_ EC_ EF_) SU SI SC hcz) hZr829 (hw _ (List.mem_of_getElem? (i := 37) rfl)) (hw _ (List.mem_of_getElem? (i := 28) rfl)) (by decide) (by decide) hEL CR841.1 (sfS sf849 sf0) (allS A835.lt all0)) (g := (mkF m 155 #[.val (.int p1), .val (.int p2), .val (.long p3), .second, .val (.long p4), .second, .val (.int p5), .val (.int (Int32.ofNat nn)), .val (.int c0), .val (.int c1), .val (.int (Int32.ofNat kk)), .val (.int (Int32.ofNat mm)), .val (.int d0), .val (.int d1), .val (.int (Int32.ofNat kj)), .val (.long m2), .second, .val (.ref am824), .val (.ref am829), .unset, .unset, .unset, .unset, .unset, .unset, .unset] [(.long p3), (.ref (own_st wP wL wC wF kk)), (.ref am824), (.ref b835), (.ref b835)])) rfl (by rw [hml]; rfl) (Steps.refl _) (a := b835) (argsL := [(.ref am824), (.ref (own_st wP wL wC wF kk)), (.long p3)]) (rest := [(.ref b835)]) (lenOf lw_pd2 rfl) rfl (by show 2 * 0 + _ ≤ _; exact Nat.le_of_eq rfl) (hb hby at_155) (fun _ _ => ⟨rfl, hh850, Nat.le_of_ble_eq_true rfl, Nat.le_of_ble_eq_true rfl⟩)
        dsimp only [Pt.U, Pt.locs, Pt.cells, Pt.slots] at X851 l851 y851 z851 st851 hQ851 hSn851 hgr851 CRn851
        subst l851 y851 z851
        obtain ⟨Xr851, hSr851, hZr851, hownr851⟩ := rebS hSr829 (own_hle hh850 hk842) X851 hSn851 hgr851 hZr829 hownr829
        obtain ⟨rfl, N851q, K851, EX851, FO851, FS851, FC851⟩ := hQ851
        refine own_seq st851 ?_
        have N851 := Fr.app N850 N851q
        have O852 := O838.keep K851 (allS ge836 all0)
        have KP853 := KP839.trans K851 (allS (Or.inr sz837) all0)
        have Zs854 := Nat.le_trans Zs840 K851.1
        have CR855 := CR841.trans CRn851
        have f856 := (OwnStr.keepE K851 A835 (by decide) (hw _ (List.mem_of_getElem? (i := 27) rfl)) f843)
        have f857 := (OwnStr.keepE K851 A835 (by decide) (hw _ (List.mem_of_getElem? (i := 27) rfl)) f844)
        have f858 := A835.keep K851
        have f859 := (CRn851.safe A835.lt sf849)
        show OwnGo p e below (T851.setTop (mkF m 158 #[.val (.int p1), .val (.int p2), .val (.long p3), .second, .val (.long p4), .second, .val (.int p5), .val (.int (Int32.ofNat nn)), .val (.int c0), .val (.int c1), .val (.int (Int32.ofNat kk)), .val (.int (Int32.ofNat mm)), .val (.int d0), .val (.int d1), .val (.int (Int32.ofNat kj)), .val (.long m2), .second, .val (.ref am824), .val (.ref am829), .unset, .unset, .unset, .unset, .unset, .unset, .unset] [(.ref b835)])) _
        refine own_back (fun t k => XS.astore Xr851.here hx rfl (hb hby at_158) rfl rfl (l' := #[.val (.int p1), .val (.int p2), .val (.long p3), .second, .val (.long p4), .second, .val (.int p5), .val (.int (Int32.ofNat nn)), .val (.int c0), .val (.int c1), .val (.int (Int32.ofNat kk)), .val (.int (Int32.ofNat mm)), .val (.int d0), .val (.int d1), .val (.int (Int32.ofNat kj)), .val (.long m2), .second, .val (.ref am824), .val (.ref am829), .val (.ref b835), .unset, .unset, .unset, .unset, .unset, .unset]) rfl k) ?_
        show OwnGo p e below (T851.setTop (mkF m 160 #[.val (.int p1), .val (.int p2), .val (.long p3), .second, .val (.long p4), .second, .val (.int p5), .val (.int (Int32.ofNat nn)), .val (.int c0), .val (.int c1), .val (.int (Int32.ofNat kk)), .val (.int (Int32.ofNat mm)), .val (.int d0), .val (.int d1), .val (.int (Int32.ofNat kj)), .val (.long m2), .second, .val (.ref am824), .val (.ref am829), .val (.ref b835), .unset, .unset, .unset, .unset, .unset, .unset] [])) _
        obtain ⟨T860, h860, X860, e860, E860, A860, D860, -, st860⟩ := newO Xr851 hx hZr851 hownr851 (hw _ (List.mem_of_getElem? (i := 26) rfl)) (hw _ (List.mem_of_getElem? (i := 27) rfl)) (hw _ (List.mem_of_getElem? (i := 28) rfl)) rfl (g := (mkF m 160 #[.val (.int p1), .val (.int p2), .val (.long p3), .second, .val (.long p4), .second, .val (.int p5), .val (.int (Int32.ofNat nn)), .val (.int c0), .val (.int c1), .val (.int (Int32.ofNat kk)), .val (.int (Int32.ofNat mm)), .val (.int d0), .val (.int d1), .val (.int (Int32.ofNat kj)), .val (.long m2), .second, .val (.ref am824), .val (.ref am829), .val (.ref b835), .unset, .unset, .unset, .unset, .unset, .unset] [])) rfl (hb hby at_160) (Nat.le_of_ble_eq_true rfl) (Nat.le_of_ble_eq_true rfl)
        obtain ⟨b860, g860⟩ : ∃ z, z = T851.heap.size := ⟨_, rfl⟩
        have ge861 : n0 ≤ b860 := Nat.le_trans Zs854 (Nat.le_of_eq g860.symm)
        have sz862 : h0.size ≤ b860 := Nat.le_trans KP853.1 (Nat.le_of_eq g860.symm)
        rw [← g860] at A860 D860 st860
        have O863 := O852.ext E860
        have KP864 := KP853.ext E860
        have Zs865 := Nat.le_trans Zs854 E860.1
        have CR866 := CR855.trans (CHr.ext E860 CR855.1)
        have hk867 := Nat.le_trans (Nat.le_refl _) E860.1
        have f868 := f856.ext E860
        have f869 := f857.ext E860
        have f870 := EX851.ext E860
        have f871 := (Safe.ext E860 CR855.1 f859)
        have f872 := FO851.ext E860
        have f873 := FS851.ext E860
        have f874 := FC851.ext E860
        have F875 : Fld Z h860 b860 "com/example/lease/lease/OwnerCount" "owner" "Ljava/lang/String;" .null := D860 (Or.inr (hw _ (List.mem_of_getElem? (i := 46) rfl))) (ty := (.object "java/lang/String")) (by decide)
        have F876 : Fld Z h860 b860 "com/example/lease/lease/OwnerCount" "ownerUtf8" "[B" .null := D860 (Or.inr (hw _ (List.mem_of_getElem? (i := 85) rfl))) (ty := (.array .byte)) (by decide)
        have F877 : Fld Z h860 b860 "com/example/lease/lease/OwnerCount" "status" "Lcom/example/lease/lease/PartitionStatus;" .null := D860 (Or.inr (hw _ (List.mem_of_getElem? (i := 90) rfl))) (ty := (.object "com/example/lease/lease/PartitionStatus")) (by decide)
        have F878 : Fld Z h860 b860 "com/example/lease/lease/OwnerCount" "count" "J" (.long (0 : Int64)) := D860 (Or.inr (hw _ (List.mem_of_getElem? (i := 92) rfl))) (ty := .long) (by decide)
        have sf879 := Safe.ext E860 CR855.1 (Safe.new (Nat.le_of_eq g860.symm))
        refine own_back st860 ?_
        show OwnGo p e below (T860.setTop (mkF m 163 #[.val (.int p1), .val (.int p2), .val (.long p3), .second, .val (.long p4), .second, .val (.int p5), .val (.int (Int32.ofNat nn)), .val (.int c0), .val (.int c1), .val (.int (Int32.ofNat kk)), .val (.int (Int32.ofNat mm)), .val (.int d0), .val (.int d1), .val (.int (Int32.ofNat kj)), .val (.long m2), .second, .val (.ref am824), .val (.ref am829), .val (.ref b835), .unset, .unset, .unset, .unset, .unset, .unset] [(.ref b860)])) _
        refine own_back (fun t k => XS.dup X860.here hx rfl (hb hby at_163) rfl rfl k) ?_
        show OwnGo p e below (T860.setTop (mkF m 164 #[.val (.int p1), .val (.int p2), .val (.long p3), .second, .val (.long p4), .second, .val (.int p5), .val (.int (Int32.ofNat nn)), .val (.int c0), .val (.int c1), .val (.int (Int32.ofNat kk)), .val (.int (Int32.ofNat mm)), .val (.int d0), .val (.int d1), .val (.int (Int32.ofNat kj)), .val (.long m2), .second, .val (.ref am824), .val (.ref am829), .val (.ref b835), .unset, .unset, .unset, .unset, .unset, .unset] [(.ref b860), (.ref b860)])) _
        refine own_back (fun t k => XS.aload X860.here hx rfl (hb hby at_164) rfl rfl k) ?_
        show OwnGo p e below (T860.setTop (mkF m 166 #[.val (.int p1), .val (.int p2), .val (.long p3), .second, .val (.long p4), .second, .val (.int p5), .val (.int (Int32.ofNat nn)), .val (.int c0), .val (.int c1), .val (.int (Int32.ofNat kk)), .val (.int (Int32.ofNat mm)), .val (.int d0), .val (.int d1), .val (.int (Int32.ofNat kj)), .val (.long m2), .second, .val (.ref am824), .val (.ref am829), .val (.ref b835), .unset, .unset, .unset, .unset, .unset, .unset] [(.ref am829), (.ref b860), (.ref b860)])) _
        refine own_back (fun t k => XS.iload X860.here hx rfl (hb hby at_166) rfl k) ?_
        show OwnGo p e below (T860.setTop (mkF m 168 #[.val (.int p1), .val (.int p2), .val (.long p3), .second, .val (.long p4), .second, .val (.int p5), .val (.int (Int32.ofNat nn)), .val (.int c0), .val (.int c1), .val (.int (Int32.ofNat kk)), .val (.int (Int32.ofNat mm)), .val (.int d0), .val (.int d1), .val (.int (Int32.ofNat kj)), .val (.long m2), .second, .val (.ref am824), .val (.ref am829), .val (.ref b835), .unset, .unset, .unset, .unset, .unset, .unset] [(.int (Int32.ofNat kj)), (.ref am829), (.ref b860), (.ref b860)])) _
        obtain ⟨_, _, ⟨T880, L880, k880, n880⟩, -, X880, ⟨Lc880, hQ880, l880, y880, z880⟩, st880⟩ := Jvm.LawKit.callS X860 hx (y := (⟨"com/example/lease/lease/OwnerCountEqualsPinLaw", "st", "(I)Lcom/example/lease/lease/PartitionStatus;"⟩ : MethodName)) hownr851 (mvT hZr851 (hw _ (List.mem_of_getElem? (i := 29) rfl))) (mvT hZr851 (hw _ (List.mem_of_getElem? (i := 30) rfl))) (mvT hZr851 (hw _ (List.mem_of_getElem? (i := 2) rfl))) (mvT hZr851 (hw _ (List.mem_of_getElem? (i := 31) rfl))) (by decide) (own_backN (W := 3) (rm_st l Z a0 hw [] kj wP wL wC wF h860 n0 Zs865 O863 hkj SP SL SC_ SF_) hZr851 (hw _ (List.mem_of_getElem? (i := 31) rfl)) (hw _ (List.mem_of_getElem? (i := 2) rfl)) (by decide) (by decide)) (g := (mkF m 168 #[.val (.int p1), .val (.int p2), .val (.long p3), .second, .val (.long p4), .second, .val (.int p5), .val (.int (Int32.ofNat nn)), .val (.int c0), .val (.int c1), .val (.int (Int32.ofNat kk)), .val (.int (Int32.ofNat mm)), .val (.int d0), .val (.int d1), .val (.int (Int32.ofNat kj)), .val (.long m2), .second, .val (.ref am824), .val (.ref am829), .val (.ref b835), .unset, .unset, .unset, .unset, .unset, .unset] [(.int (Int32.ofNat kj)), (.ref am829), (.ref b860), (.ref b860)])) rfl (by rw [hml]; rfl) (argsL := [(.int (Int32.ofNat kj))]) (rest := [(.ref am829), (.ref b860), (.ref b860)]) (lenOf lw_pd1 rfl) rfl (by show 2 * 0 + _ ≤ _; exact Nat.le_of_eq rfl) (hb hby at_168) (fun _ _ => ⟨rfl, e860, Nat.le_of_ble_eq_true rfl, Nat.le_of_ble_eq_true rfl⟩)
        dsimp only [Pt.U, Pt.locs, Pt.cells, Pt.slots] at X880 l880 y880 z880 st880 hQ880
        subst l880 y880 z880
        obtain ⟨rfl, N880q, hh880⟩ := hQ880
        refine own_back st880 ?_
        have N880 := Fr.app N851 N880q
        show OwnGo p e below (T880.setTop (mkF m 171 #[.val (.int p1), .val (.int p2), .val (.long p3), .second, .val (.long p4), .second, .val (.int p5), .val (.int (Int32.ofNat nn)), .val (.int c0), .val (.int c1), .val (.int (Int32.ofNat kk)), .val (.int (Int32.ofNat mm)), .val (.int d0), .val (.int d1), .val (.int (Int32.ofNat kj)), .val (.long m2), .second, .val (.ref am824), .val (.ref am829), .val (.ref b835), .unset, .unset, .unset, .unset, .unset, .unset] [(.ref (own_st wP wL wC wF kj)), (.ref am829), (.ref b860), (.ref b860)])) _
        refine own_back (fun t k => XS.lload X880.here hx rfl (hb hby at_171) rfl k) ?_
        show OwnGo p e below (T880.setTop (mkF m 173 #[.val (.int p1), .val (.int p2), .val (.long p3), .second, .val (.long p4), .second, .val (.int p5), .val (.int (Int32.ofNat nn)), .val (.int c0), .val (.int c1), .val (.int (Int32.ofNat kk)), .val (.int (Int32.ofNat mm)), .val (.int d0), .val (.int d1), .val (.int (Int32.ofNat kj)), .val (.long m2), .second, .val (.ref am824), .val (.ref am829), .val (.ref b835), .unset, .unset, .unset, .unset, .unset, .unset] [(.long m2), (.ref (own_st wP wL wC wF kj)), (.ref am829), (.ref b860), (.ref b860)])) _
        obtain ⟨_, _, ⟨T881, L881, k881, n881⟩, -, X881, hSn881, hgr881, ⟨Lc881, hQ881, l881, y881, z881, CRn881⟩, st881⟩ := X880.specialBackS hx (y := (⟨"com/example/lease/lease/OwnerCount", "<init>", "(Ljava/lang/String;Lcom/example/lease/lease/PartitionStatus;J)V"⟩ : MethodName)) rfl hownr851 (mvT hZr851 (hw _ (List.mem_of_getElem? (i := 35) rfl))) (mvT hZr851 (hw _ (List.mem_of_getElem? (i := 36) rfl))) (mvT hZr851 (hw _ (List.mem_of_getElem? (i := 37) rfl))) (by decide) (own_backH (W := 1) (rm_ini l Z a0 hw [] b860 am829 (own_st wP wL wC wF kj) m2 (own_L mm d0 d1) w8 cz h860 n0 Zs865 O863 A860 F875 F876 F877 F878 ge861 f869 (own_bll _ _ hmm) (own_stE EP EL_ EC_ EF_) SU SI SC hcz) hZr851 (hw _ (List.mem_of_getElem? (i := 37) rfl)) (hw _ (List.mem_of_getElem? (i := 28) rfl)) (by decide) (by decide) hEL CR866.1 (sfS sf879 sf0) (allS A860.lt all0)) (g := (mkF m 173 #[.val (.int p1), .val (.int p2), .val (.long p3), .second, .val (.long p4), .second, .val (.int p5), .val (.int (Int32.ofNat nn)), .val (.int c0), .val (.int c1), .val (.int (Int32.ofNat kk)), .val (.int (Int32.ofNat mm)), .val (.int d0), .val (.int d1), .val (.int (Int32.ofNat kj)), .val (.long m2), .second, .val (.ref am824), .val (.ref am829), .val (.ref b835), .unset, .unset, .unset, .unset, .unset, .unset] [(.long m2), (.ref (own_st wP wL wC wF kj)), (.ref am829), (.ref b860), (.ref b860)])) rfl (by rw [hml]; rfl) (Steps.refl _) (a := b860) (argsL := [(.ref am829), (.ref (own_st wP wL wC wF kj)), (.long m2)]) (rest := [(.ref b860)]) (lenOf lw_pd2 rfl) rfl (by show 2 * 0 + _ ≤ _; exact Nat.le_of_eq rfl) (hb hby at_173) (fun _ _ => ⟨rfl, hh880, Nat.le_of_ble_eq_true rfl, Nat.le_of_ble_eq_true rfl⟩)
        dsimp only [Pt.U, Pt.locs, Pt.cells, Pt.slots] at X881 l881 y881 z881 st881 hQ881 hSn881 hgr881 CRn881
        subst l881 y881 z881
        obtain ⟨Xr881, hSr881, hZr881, hownr881⟩ := rebS hSr851 (own_hle hh880 hk867) X881 hSn881 hgr881 hZr851 hownr851
        obtain ⟨rfl, N881q, K881, EX881, FO881, FS881, FC881⟩ := hQ881
        refine own_seq st881 ?_
        have N881 := Fr.app N880 N881q
        have O882 := O863.keep K881 (allS ge861 all0)
        have KP883 := KP864.trans K881 (allS (Or.inr sz862) all0)
        have Zs884 := Nat.le_trans Zs865 K881.1
        have CR885 := CR866.trans CRn881
        have f886 := (OwnStr.keepE K881 A860 (by decide) (hw _ (List.mem_of_getElem? (i := 27) rfl)) f868)
        have f887 := (OwnStr.keepE K881 A860 (by decide) (hw _ (List.mem_of_getElem? (i := 27) rfl)) f869)
        have f888 := f870.keep K881
        have f889 := (CRn881.safe f870.lt f871)
        have f890 := f872.keep K881 (ninS (Nat.ne_of_lt (Nat.lt_of_lt_of_le EX851.lt (Nat.le_of_eq g860.symm))) nin0)
        have f891 := f873.keep K881 (ninS (Nat.ne_of_lt (Nat.lt_of_lt_of_le EX851.lt (Nat.le_of_eq g860.symm))) nin0)
        have f892 := f874.keep K881 (ninS (Nat.ne_of_lt (Nat.lt_of_lt_of_le EX851.lt (Nat.le_of_eq g860.symm))) nin0)
        have f893 := A860.keep K881
        have f894 := (CRn881.safe A860.lt sf879)
        show OwnGo p e below (T881.setTop (mkF m 176 #[.val (.int p1), .val (.int p2), .val (.long p3), .second, .val (.long p4), .second, .val (.int p5), .val (.int (Int32.ofNat nn)), .val (.int c0), .val (.int c1), .val (.int (Int32.ofNat kk)), .val (.int (Int32.ofNat mm)), .val (.int d0), .val (.int d1), .val (.int (Int32.ofNat kj)), .val (.long m2), .second, .val (.ref am824), .val (.ref am829), .val (.ref b835), .unset, .unset, .unset, .unset, .unset, .unset] [(.ref b860)])) _
        refine own_back (fun t k => XS.astore Xr881.here hx rfl (hb hby at_176) rfl rfl (l' := #[.val (.int p1), .val (.int p2), .val (.long p3), .second, .val (.long p4), .second, .val (.int p5), .val (.int (Int32.ofNat nn)), .val (.int c0), .val (.int c1), .val (.int (Int32.ofNat kk)), .val (.int (Int32.ofNat mm)), .val (.int d0), .val (.int d1), .val (.int (Int32.ofNat kj)), .val (.long m2), .second, .val (.ref am824), .val (.ref am829), .val (.ref b835), .val (.ref b860), .unset, .unset, .unset, .unset, .unset]) rfl k) ?_
        show OwnGo p e below (T881.setTop (mkF m 178 #[.val (.int p1), .val (.int p2), .val (.long p3), .second, .val (.long p4), .second, .val (.int p5), .val (.int (Int32.ofNat nn)), .val (.int c0), .val (.int c1), .val (.int (Int32.ofNat kk)), .val (.int (Int32.ofNat mm)), .val (.int d0), .val (.int d1), .val (.int (Int32.ofNat kj)), .val (.long m2), .second, .val (.ref am824), .val (.ref am829), .val (.ref b835), .val (.ref b860), .unset, .unset, .unset, .unset, .unset] [])) _
        have tl216_895 : ∀ (Tj895 : State) (hj895 : Heap) (so : Int32), OwnSt p l e room_1 s m #[(.int p1), (.int p2), (.long p3), (.long p4), (.int p5)] below meth c Z own_EL "com/example/lease/lease/OwnerCountEqualsPinLaw" n0 h0 [] Tj895 hj895 26 160 → (OwnStr Z hj895 am824 (own_L nn c0 c1)) → (OwnStr Z hj895 am829 (own_L mm d0 d1)) → (Exa Z hj895 b835 "com/example/lease/lease/OwnerCount") → (Fld Z hj895 b835 "com/example/lease/lease/OwnerCount" "owner" "Ljava/lang/String;" (.ref am824)) → (Fld Z hj895 b835 "com/example/lease/lease/OwnerCount" "status" "Lcom/example/lease/lease/PartitionStatus;" (.ref (own_st wP wL wC wF kk))) → (Fld Z hj895 b835 "com/example/lease/lease/OwnerCount" "count" "J" (.long p3)) → (Exa Z hj895 b860 "com/example/lease/lease/OwnerCount") → (Fld Z hj895 b860 "com/example/lease/lease/OwnerCount" "owner" "Ljava/lang/String;" (.ref am829)) → (Fld Z hj895 b860 "com/example/lease/lease/OwnerCount" "status" "Lcom/example/lease/lease/PartitionStatus;" (.ref (own_st wP wL wC wF kj))) → (Fld Z hj895 b860 "com/example/lease/lease/OwnerCount" "count" "J" (.long m2)) → (so = (if (own_L nn c0 c1) = (own_L mm d0 d1) then (1 : Int32) else 0)) → OwnGo p e below (Tj895.setTop (mkF m 216 #[.val (.int p1), .val (.int p2), .val (.long p3), .second, .val (.long p4), .second, .val (.int p5), .val (.int (Int32.ofNat nn)), .val (.int c0), .val (.int c1), .val (.int (Int32.ofNat kk)), .val (.int (Int32.ofNat mm)), .val (.int d0), .val (.int d1), .val (.int (Int32.ofNat kj)), .val (.long m2), .second, .val (.ref am824), .val (.ref am829), .val (.ref b835), .val (.ref b860), .unset, .unset, .unset, .unset, .unset] [(.int so)])) (OwnEndW Z own_EL s (fun v h L => v = some (.int 1) ∧ Fr n0 L) room_1.cells room_1.slots) := by
          intro Tj895 hj895 so HS895 hs895_0 hs895_1 hs895_2 hs895_3 hs895_4 hs895_5 hs895_6 hs895_7 hs895_8 hs895_9 hso
          obtain ⟨vj895, kj895, Lj895, Xj895, ej895, hSj895, hkj895, hZj895, hownj895, CRj895, Oj895, KPj895, Zj895, Nj895⟩ := HS895
          show OwnGo p e below (Tj895.setTop (mkF m 216 #[.val (.int p1), .val (.int p2), .val (.long p3), .second, .val (.long p4), .second, .val (.int p5), .val (.int (Int32.ofNat nn)), .val (.int c0), .val (.int c1), .val (.int (Int32.ofNat kk)), .val (.int (Int32.ofNat mm)), .val (.int d0), .val (.int d1), .val (.int (Int32.ofNat kj)), .val (.long m2), .second, .val (.ref am824), .val (.ref am829), .val (.ref b835), .val (.ref b860), .unset, .unset, .unset, .unset, .unset] [(.int so)])) _
          refine own_back (fun t k => XS.istore Xj895.here hx rfl (hb hby at_216) rfl (l' := #[.val (.int p1), .val (.int p2), .val (.long p3), .second, .val (.long p4), .second, .val (.int p5), .val (.int (Int32.ofNat nn)), .val (.int c0), .val (.int c1), .val (.int (Int32.ofNat kk)), .val (.int (Int32.ofNat mm)), .val (.int d0), .val (.int d1), .val (.int (Int32.ofNat kj)), .val (.long m2), .second, .val (.ref am824), .val (.ref am829), .val (.ref b835), .val (.ref b860), .val (.int so), .unset, .unset, .unset, .unset]) rfl k) ?_
          show OwnGo p e below (Tj895.setTop (mkF m 218 #[.val (.int p1), .val (.int p2), .val (.long p3), .second, .val (.long p4), .second, .val (.int p5), .val (.int (Int32.ofNat nn)), .val (.int c0), .val (.int c1), .val (.int (Int32.ofNat kk)), .val (.int (Int32.ofNat mm)), .val (.int d0), .val (.int d1), .val (.int (Int32.ofNat kj)), .val (.long m2), .second, .val (.ref am824), .val (.ref am829), .val (.ref b835), .val (.ref b860), .val (.int so), .unset, .unset, .unset, .unset] [])) _
          have tl242_896 : ∀ (Tj896 : State) (hj896 : Heap) (ex : Int32), OwnSt p l e room_1 s m #[(.int p1), (.int p2), (.long p3), (.long p4), (.int p5)] below meth c Z own_EL "com/example/lease/lease/OwnerCountEqualsPinLaw" n0 h0 [] Tj896 hj896 26 160 → (OwnStr Z hj896 am824 (own_L nn c0 c1)) → (OwnStr Z hj896 am829 (own_L mm d0 d1)) → (Exa Z hj896 b835 "com/example/lease/lease/OwnerCount") → (Fld Z hj896 b835 "com/example/lease/lease/OwnerCount" "owner" "Ljava/lang/String;" (.ref am824)) → (Fld Z hj896 b835 "com/example/lease/lease/OwnerCount" "status" "Lcom/example/lease/lease/PartitionStatus;" (.ref (own_st wP wL wC wF kk))) → (Fld Z hj896 b835 "com/example/lease/lease/OwnerCount" "count" "J" (.long p3)) → (Exa Z hj896 b860 "com/example/lease/lease/OwnerCount") → (Fld Z hj896 b860 "com/example/lease/lease/OwnerCount" "owner" "Ljava/lang/String;" (.ref am829)) → (Fld Z hj896 b860 "com/example/lease/lease/OwnerCount" "status" "Lcom/example/lease/lease/PartitionStatus;" (.ref (own_st wP wL wC wF kj))) → (Fld Z hj896 b860 "com/example/lease/lease/OwnerCount" "count" "J" (.long m2)) → (ex = (if (own_L nn c0 c1) = (own_L mm d0 d1) ∧ (own_st wP wL wC wF kk) = (own_st wP wL wC wF kj) ∧ p3 = m2 then (1 : Int32) else 0)) → OwnGo p e below (Tj896.setTop (mkF m 242 #[.val (.int p1), .val (.int p2), .val (.long p3), .second, .val (.long p4), .second, .val (.int p5), .val (.int (Int32.ofNat nn)), .val (.int c0), .val (.int c1), .val (.int (Int32.ofNat kk)), .val (.int (Int32.ofNat mm)), .val (.int d0), .val (.int d1), .val (.int (Int32.ofNat kj)), .val (.long m2), .second, .val (.ref am824), .val (.ref am829), .val (.ref b835), .val (.ref b860), .val (.int so), .unset, .unset, .unset, .unset] [(.int ex)])) (OwnEndW Z own_EL s (fun v h L => v = some (.int 1) ∧ Fr n0 L) room_1.cells room_1.slots) := by
            intro Tj896 hj896 ex HS896 hs896_0 hs896_1 hs896_2 hs896_3 hs896_4 hs896_5 hs896_6 hs896_7 hs896_8 hs896_9 hex
            obtain ⟨vj896, kj896, Lj896, Xj896, ej896, hSj896, hkj896, hZj896, hownj896, CRj896, Oj896, KPj896, Zj896, Nj896⟩ := HS896
            show OwnGo p e below (Tj896.setTop (mkF m 242 #[.val (.int p1), .val (.int p2), .val (.long p3), .second, .val (.long p4), .second, .val (.int p5), .val (.int (Int32.ofNat nn)), .val (.int c0), .val (.int c1), .val (.int (Int32.ofNat kk)), .val (.int (Int32.ofNat mm)), .val (.int d0), .val (.int d1), .val (.int (Int32.ofNat kj)), .val (.long m2), .second, .val (.ref am824), .val (.ref am829), .val (.ref b835), .val (.ref b860), .val (.int so), .unset, .unset, .unset, .unset] [(.int ex)])) _
            refine own_back (fun t k => XS.istore Xj896.here hx rfl (hb hby at_242) rfl (l' := #[.val (.int p1), .val (.int p2), .val (.long p3), .second, .val (.long p4), .second, .val (.int p5), .val (.int (Int32.ofNat nn)), .val (.int c0), .val (.int c1), .val (.int (Int32.ofNat kk)), .val (.int (Int32.ofNat mm)), .val (.int d0), .val (.int d1), .val (.int (Int32.ofNat kj)), .val (.long m2), .second, .val (.ref am824), .val (.ref am829), .val (.ref b835), .val (.ref b860), .val (.int so), .val (.int ex), .unset, .unset, .unset]) rfl k) ?_
            show OwnGo p e below (Tj896.setTop (mkF m 244 #[.val (.int p1), .val (.int p2), .val (.long p3), .second, .val (.long p4), .second, .val (.int p5), .val (.int (Int32.ofNat nn)), .val (.int c0), .val (.int c1), .val (.int (Int32.ofNat kk)), .val (.int (Int32.ofNat mm)), .val (.int d0), .val (.int d1), .val (.int (Int32.ofNat kj)), .val (.long m2), .second, .val (.ref am824), .val (.ref am829), .val (.ref b835), .val (.ref b860), .val (.int so), .val (.int ex), .unset, .unset, .unset] [])) _
            refine own_back (fun t k => XS.aload Xj896.here hx rfl (hb hby at_244) rfl rfl k) ?_
            show OwnGo p e below (Tj896.setTop (mkF m 246 #[.val (.int p1), .val (.int p2), .val (.long p3), .second, .val (.long p4), .second, .val (.int p5), .val (.int (Int32.ofNat nn)), .val (.int c0), .val (.int c1), .val (.int (Int32.ofNat kk)), .val (.int (Int32.ofNat mm)), .val (.int d0), .val (.int d1), .val (.int (Int32.ofNat kj)), .val (.long m2), .second, .val (.ref am824), .val (.ref am829), .val (.ref b835), .val (.ref b860), .val (.int so), .val (.int ex), .unset, .unset, .unset] [(.ref b835)])) _
            refine own_back (fun t k => XS.aload Xj896.here hx rfl (hb hby at_246) rfl rfl k) ?_
            show OwnGo p e below (Tj896.setTop (mkF m 248 #[.val (.int p1), .val (.int p2), .val (.long p3), .second, .val (.long p4), .second, .val (.int p5), .val (.int (Int32.ofNat nn)), .val (.int c0), .val (.int c1), .val (.int (Int32.ofNat kk)), .val (.int (Int32.ofNat mm)), .val (.int d0), .val (.int d1), .val (.int (Int32.ofNat kj)), .val (.long m2), .second, .val (.ref am824), .val (.ref am829), .val (.ref b835), .val (.ref b860), .val (.int so), .val (.int ex), .unset, .unset, .unset] [(.ref b860), (.ref b835)])) _
            obtain ⟨cq897, kq897, q897a, q897b, q897c⟩ := isOf hZj896 ej896 hs896_2
            obtain ⟨_, _, ⟨T897, L897, k897, n897⟩, -, X897, ⟨Lc897, hQ897, l897, y897, z897⟩, st897⟩ := Xj896.virtualBack hx (y := (⟨"com/example/lease/lease/OwnerCount", "equals", "(Ljava/lang/Object;)Z"⟩ : MethodName)) (z := (⟨"com/example/lease/lease/OwnerCount", "equals", "(Ljava/lang/Object;)Z"⟩ : MethodName)) hownj896 (mvT hZj896 (hw _ (List.mem_of_getElem? (i := 93) rfl))) (mvT hZj896 (hw _ (List.mem_of_getElem? (i := 94) rfl))) (notFace_of_selects (args := #[]) (mvT hZj896 (hw _ (List.mem_of_getElem? (i := 96) rfl)))) (mvT hZj896 (hw _ (List.mem_of_getElem? (i := 96) rfl))) (mvT hZj896 (hw _ (List.mem_of_getElem? (i := 95) rfl))) (by decide) (own_backN (W := 0) (rm_oeq l Z a0 hw [] b835 b860 am824 am829 (own_st wP wL wC wF kk) (own_st wP wL wC wF kj) p3 m2 (own_L nn c0 c1) (own_L mm d0 d1) cz hj896 n0 Zj896 Oj896 hs896_2 hs896_6 hs896_3 hs896_4 hs896_5 hs896_7 hs896_8 hs896_9 hs896_0 hs896_1 SC hcz) hZj896 (hw _ (List.mem_of_getElem? (i := 97) rfl)) (hw _ (List.mem_of_getElem? (i := 28) rfl)) (by decide) (by decide)) q897a q897c (g := (mkF m 248 #[.val (.int p1), .val (.int p2), .val (.long p3), .second, .val (.long p4), .second, .val (.int p5), .val (.int (Int32.ofNat nn)), .val (.int c0), .val (.int c1), .val (.int (Int32.ofNat kk)), .val (.int (Int32.ofNat mm)), .val (.int d0), .val (.int d1), .val (.int (Int32.ofNat kj)), .val (.long m2), .second, .val (.ref am824), .val (.ref am829), .val (.ref b835), .val (.ref b860), .val (.int so), .val (.int ex), .unset, .unset, .unset] [(.ref b860), (.ref b835)])) rfl (by rw [hml]; rfl) (Steps.refl _) (argsL := [(.ref b860)]) (rest := []) (lenOf lw_pd3 rfl) rfl (by show 2 * 0 + _ ≤ _; exact Nat.le_of_eq rfl) (hb hby at_248) (fun _ _ => ⟨rfl, ej896, Nat.le_of_ble_eq_true rfl, Nat.le_of_ble_eq_true rfl⟩)
            dsimp only [Pt.U, Pt.locs, Pt.cells, Pt.slots] at X897 l897 y897 z897 st897 hQ897
            subst l897 y897 z897
            obtain ⟨rfl, N897q, hh897⟩ := hQ897
            refine own_seq st897 ?_
            have N897 := Fr.app Nj896 N897q
            show OwnGo p e below (T897.setTop (mkF m 251 #[.val (.int p1), .val (.int p2), .val (.long p3), .second, .val (.long p4), .second, .val (.int p5), .val (.int (Int32.ofNat nn)), .val (.int c0), .val (.int c1), .val (.int (Int32.ofNat kk)), .val (.int (Int32.ofNat mm)), .val (.int d0), .val (.int d1), .val (.int (Int32.ofNat kj)), .val (.long m2), .second, .val (.ref am824), .val (.ref am829), .val (.ref b835), .val (.ref b860), .val (.int so), .val (.int ex), .unset, .unset, .unset] [(.int (if (own_L nn c0 c1) = (own_L mm d0 d1) ∧ (own_st wP wL wC wF kk) = (own_st wP wL wC wF kj) ∧ p3 = m2 then (1 : Int32) else 0))])) _
            refine own_back (fun t k => XS.istore X897.here hx rfl (hb hby at_251) rfl (l' := #[.val (.int p1), .val (.int p2), .val (.long p3), .second, .val (.long p4), .second, .val (.int p5), .val (.int (Int32.ofNat nn)), .val (.int c0), .val (.int c1), .val (.int (Int32.ofNat kk)), .val (.int (Int32.ofNat mm)), .val (.int d0), .val (.int d1), .val (.int (Int32.ofNat kj)), .val (.long m2), .second, .val (.ref am824), .val (.ref am829), .val (.ref b835), .val (.ref b860), .val (.int so), .val (.int ex), .val (.int (if (own_L nn c0 c1) = (own_L mm d0 d1) ∧ (own_st wP wL wC wF kk) = (own_st wP wL wC wF kj) ∧ p3 = m2 then (1 : Int32) else 0)), .unset, .unset]) rfl k) ?_
            show OwnGo p e below (T897.setTop (mkF m 253 #[.val (.int p1), .val (.int p2), .val (.long p3), .second, .val (.long p4), .second, .val (.int p5), .val (.int (Int32.ofNat nn)), .val (.int c0), .val (.int c1), .val (.int (Int32.ofNat kk)), .val (.int (Int32.ofNat mm)), .val (.int d0), .val (.int d1), .val (.int (Int32.ofNat kj)), .val (.long m2), .second, .val (.ref am824), .val (.ref am829), .val (.ref b835), .val (.ref b860), .val (.int so), .val (.int ex), .val (.int (if (own_L nn c0 c1) = (own_L mm d0 d1) ∧ (own_st wP wL wC wF kk) = (own_st wP wL wC wF kj) ∧ p3 = m2 then (1 : Int32) else 0)), .unset, .unset] [])) _
            refine own_back (fun t k => XS.aload X897.here hx rfl (hb hby at_253) rfl rfl k) ?_
            show OwnGo p e below (T897.setTop (mkF m 255 #[.val (.int p1), .val (.int p2), .val (.long p3), .second, .val (.long p4), .second, .val (.int p5), .val (.int (Int32.ofNat nn)), .val (.int c0), .val (.int c1), .val (.int (Int32.ofNat kk)), .val (.int (Int32.ofNat mm)), .val (.int d0), .val (.int d1), .val (.int (Int32.ofNat kj)), .val (.long m2), .second, .val (.ref am824), .val (.ref am829), .val (.ref b835), .val (.ref b860), .val (.int so), .val (.int ex), .val (.int (if (own_L nn c0 c1) = (own_L mm d0 d1) ∧ (own_st wP wL wC wF kk) = (own_st wP wL wC wF kj) ∧ p3 = m2 then (1 : Int32) else 0)), .unset, .unset] [(.ref b860)])) _
            refine own_back (fun t k => XS.aload X897.here hx rfl (hb hby at_255) rfl rfl k) ?_
            show OwnGo p e below (T897.setTop (mkF m 257 #[.val (.int p1), .val (.int p2), .val (.long p3), .second, .val (.long p4), .second, .val (.int p5), .val (.int (Int32.ofNat nn)), .val (.int c0), .val (.int c1), .val (.int (Int32.ofNat kk)), .val (.int (Int32.ofNat mm)), .val (.int d0), .val (.int d1), .val (.int (Int32.ofNat kj)), .val (.long m2), .second, .val (.ref am824), .val (.ref am829), .val (.ref b835), .val (.ref b860), .val (.int so), .val (.int ex), .val (.int (if (own_L nn c0 c1) = (own_L mm d0 d1) ∧ (own_st wP wL wC wF kk) = (own_st wP wL wC wF kj) ∧ p3 = m2 then (1 : Int32) else 0)), .unset, .unset] [(.ref b835), (.ref b860)])) _
            obtain ⟨cq898, kq898, q898a, q898b, q898c⟩ := isOf hZj896 hh897 hs896_6
            obtain ⟨_, _, ⟨T898, L898, k898, n898⟩, -, X898, ⟨Lc898, hQ898, l898, y898, z898⟩, st898⟩ := X897.virtualBack hx (y := (⟨"com/example/lease/lease/OwnerCount", "equals", "(Ljava/lang/Object;)Z"⟩ : MethodName)) (z := (⟨"com/example/lease/lease/OwnerCount", "equals", "(Ljava/lang/Object;)Z"⟩ : MethodName)) hownj896 (mvT hZj896 (hw _ (List.mem_of_getElem? (i := 93) rfl))) (mvT hZj896 (hw _ (List.mem_of_getElem? (i := 94) rfl))) (notFace_of_selects (args := #[]) (mvT hZj896 (hw _ (List.mem_of_getElem? (i := 96) rfl)))) (mvT hZj896 (hw _ (List.mem_of_getElem? (i := 96) rfl))) (mvT hZj896 (hw _ (List.mem_of_getElem? (i := 95) rfl))) (by decide) (own_backN (W := 0) (rm_oeq l Z a0 hw [] b860 b835 am829 am824 (own_st wP wL wC wF kj) (own_st wP wL wC wF kk) m2 p3 (own_L mm d0 d1) (own_L nn c0 c1) cz hj896 n0 Zj896 Oj896 hs896_6 hs896_2 hs896_7 hs896_8 hs896_9 hs896_3 hs896_4 hs896_5 hs896_1 hs896_0 SC hcz) hZj896 (hw _ (List.mem_of_getElem? (i := 97) rfl)) (hw _ (List.mem_of_getElem? (i := 28) rfl)) (by decide) (by decide)) q898a q898c (g := (mkF m 257 #[.val (.int p1), .val (.int p2), .val (.long p3), .second, .val (.long p4), .second, .val (.int p5), .val (.int (Int32.ofNat nn)), .val (.int c0), .val (.int c1), .val (.int (Int32.ofNat kk)), .val (.int (Int32.ofNat mm)), .val (.int d0), .val (.int d1), .val (.int (Int32.ofNat kj)), .val (.long m2), .second, .val (.ref am824), .val (.ref am829), .val (.ref b835), .val (.ref b860), .val (.int so), .val (.int ex), .val (.int (if (own_L nn c0 c1) = (own_L mm d0 d1) ∧ (own_st wP wL wC wF kk) = (own_st wP wL wC wF kj) ∧ p3 = m2 then (1 : Int32) else 0)), .unset, .unset] [(.ref b835), (.ref b860)])) rfl (by rw [hml]; rfl) (Steps.refl _) (argsL := [(.ref b835)]) (rest := []) (lenOf lw_pd3 rfl) rfl (by show 2 * 0 + _ ≤ _; exact Nat.le_of_eq rfl) (hb hby at_257) (fun _ _ => ⟨rfl, hh897, Nat.le_of_ble_eq_true rfl, Nat.le_of_ble_eq_true rfl⟩)
            dsimp only [Pt.U, Pt.locs, Pt.cells, Pt.slots] at X898 l898 y898 z898 st898 hQ898
            subst l898 y898 z898
            obtain ⟨rfl, N898q, hh898⟩ := hQ898
            refine own_seq st898 ?_
            have N898 := Fr.app N897 N898q
            show OwnGo p e below (T898.setTop (mkF m 260 #[.val (.int p1), .val (.int p2), .val (.long p3), .second, .val (.long p4), .second, .val (.int p5), .val (.int (Int32.ofNat nn)), .val (.int c0), .val (.int c1), .val (.int (Int32.ofNat kk)), .val (.int (Int32.ofNat mm)), .val (.int d0), .val (.int d1), .val (.int (Int32.ofNat kj)), .val (.long m2), .second, .val (.ref am824), .val (.ref am829), .val (.ref b835), .val (.ref b860), .val (.int so), .val (.int ex), .val (.int (if (own_L nn c0 c1) = (own_L mm d0 d1) ∧ (own_st wP wL wC wF kk) = (own_st wP wL wC wF kj) ∧ p3 = m2 then (1 : Int32) else 0)), .unset, .unset] [(.int (if (own_L mm d0 d1) = (own_L nn c0 c1) ∧ (own_st wP wL wC wF kj) = (own_st wP wL wC wF kk) ∧ m2 = p3 then (1 : Int32) else 0))])) _
            refine own_back (fun t k => XS.istore X898.here hx rfl (hb hby at_260) rfl (l' := #[.val (.int p1), .val (.int p2), .val (.long p3), .second, .val (.long p4), .second, .val (.int p5), .val (.int (Int32.ofNat nn)), .val (.int c0), .val (.int c1), .val (.int (Int32.ofNat kk)), .val (.int (Int32.ofNat mm)), .val (.int d0), .val (.int d1), .val (.int (Int32.ofNat kj)), .val (.long m2), .second, .val (.ref am824), .val (.ref am829), .val (.ref b835), .val (.ref b860), .val (.int so), .val (.int ex), .val (.int (if (own_L nn c0 c1) = (own_L mm d0 d1) ∧ (own_st wP wL wC wF kk) = (own_st wP wL wC wF kj) ∧ p3 = m2 then (1 : Int32) else 0)), .val (.int (if (own_L mm d0 d1) = (own_L nn c0 c1) ∧ (own_st wP wL wC wF kj) = (own_st wP wL wC wF kk) ∧ m2 = p3 then (1 : Int32) else 0)), .unset]) rfl k) ?_
            show OwnGo p e below (T898.setTop (mkF m 262 #[.val (.int p1), .val (.int p2), .val (.long p3), .second, .val (.long p4), .second, .val (.int p5), .val (.int (Int32.ofNat nn)), .val (.int c0), .val (.int c1), .val (.int (Int32.ofNat kk)), .val (.int (Int32.ofNat mm)), .val (.int d0), .val (.int d1), .val (.int (Int32.ofNat kj)), .val (.long m2), .second, .val (.ref am824), .val (.ref am829), .val (.ref b835), .val (.ref b860), .val (.int so), .val (.int ex), .val (.int (if (own_L nn c0 c1) = (own_L mm d0 d1) ∧ (own_st wP wL wC wF kk) = (own_st wP wL wC wF kj) ∧ p3 = m2 then (1 : Int32) else 0)), .val (.int (if (own_L mm d0 d1) = (own_L nn c0 c1) ∧ (own_st wP wL wC wF kj) = (own_st wP wL wC wF kk) ∧ m2 = p3 then (1 : Int32) else 0)), .unset] [])) _
            refine own_back (fun t k => XS.iload X898.here hx rfl (hb hby at_262) rfl k) ?_
            show OwnGo p e below (T898.setTop (mkF m 264 #[.val (.int p1), .val (.int p2), .val (.long p3), .second, .val (.long p4), .second, .val (.int p5), .val (.int (Int32.ofNat nn)), .val (.int c0), .val (.int c1), .val (.int (Int32.ofNat kk)), .val (.int (Int32.ofNat mm)), .val (.int d0), .val (.int d1), .val (.int (Int32.ofNat kj)), .val (.long m2), .second, .val (.ref am824), .val (.ref am829), .val (.ref b835), .val (.ref b860), .val (.int so), .val (.int ex), .val (.int (if (own_L nn c0 c1) = (own_L mm d0 d1) ∧ (own_st wP wL wC wF kk) = (own_st wP wL wC wF kj) ∧ p3 = m2 then (1 : Int32) else 0)), .val (.int (if (own_L mm d0 d1) = (own_L nn c0 c1) ∧ (own_st wP wL wC wF kj) = (own_st wP wL wC wF kk) ∧ m2 = p3 then (1 : Int32) else 0)), .unset] [(.int p5)])) _
            refine own_back (fun t k => XS.bipush X898.here hx rfl (hb hby at_264) k) ?_
            show OwnGo p e below (T898.setTop (mkF m 266 #[.val (.int p1), .val (.int p2), .val (.long p3), .second, .val (.long p4), .second, .val (.int p5), .val (.int (Int32.ofNat nn)), .val (.int c0), .val (.int c1), .val (.int (Int32.ofNat kk)), .val (.int (Int32.ofNat mm)), .val (.int d0), .val (.int d1), .val (.int (Int32.ofNat kj)), .val (.long m2), .second, .val (.ref am824), .val (.ref am829), .val (.ref b835), .val (.ref b860), .val (.int so), .val (.int ex), .val (.int (if (own_L nn c0 c1) = (own_L mm d0 d1) ∧ (own_st wP wL wC wF kk) = (own_st wP wL wC wF kj) ∧ p3 = m2 then (1 : Int32) else 0)), .val (.int (if (own_L mm d0 d1) = (own_L nn c0 c1) ∧ (own_st wP wL wC wF kj) = (own_st wP wL wC wF kk) ∧ m2 = p3 then (1 : Int32) else 0)), .unset] [(.int (8 : Int32)), (.int p5)])) _
            refine own_back (fun t k => XS.iand X898.here hx rfl (hb hby at_266) rfl k) ?_
            show OwnGo p e below (T898.setTop (mkF m 267 #[.val (.int p1), .val (.int p2), .val (.long p3), .second, .val (.long p4), .second, .val (.int p5), .val (.int (Int32.ofNat nn)), .val (.int c0), .val (.int c1), .val (.int (Int32.ofNat kk)), .val (.int (Int32.ofNat mm)), .val (.int d0), .val (.int d1), .val (.int (Int32.ofNat kj)), .val (.long m2), .second, .val (.ref am824), .val (.ref am829), .val (.ref b835), .val (.ref b860), .val (.int so), .val (.int ex), .val (.int (if (own_L nn c0 c1) = (own_L mm d0 d1) ∧ (own_st wP wL wC wF kk) = (own_st wP wL wC wF kj) ∧ p3 = m2 then (1 : Int32) else 0)), .val (.int (if (own_L mm d0 d1) = (own_L nn c0 c1) ∧ (own_st wP wL wC wF kj) = (own_st wP wL wC wF kk) ∧ m2 = p3 then (1 : Int32) else 0)), .unset] [(.int (p5 &&& (8 : Int32)))])) _
            by_cases hc267_899 : (p5 &&& (8 : Int32)) = (0 : Int32)
            · refine own_back (fun t k => XS.ifYes X898.here hx rfl (pc0 := 267) (pc' := 275) rfl (hb hby at_267) rfl (Jvm.Free.XT.i0_eq_t hc267_899) (by decide) (by decide) k) ?_
              show OwnGo p e below (T898.setTop (mkF m 275 #[.val (.int p1), .val (.int p2), .val (.long p3), .second, .val (.long p4), .second, .val (.int p5), .val (.int (Int32.ofNat nn)), .val (.int c0), .val (.int c1), .val (.int (Int32.ofNat kk)), .val (.int (Int32.ofNat mm)), .val (.int d0), .val (.int d1), .val (.int (Int32.ofNat kj)), .val (.long m2), .second, .val (.ref am824), .val (.ref am829), .val (.ref b835), .val (.ref b860), .val (.int so), .val (.int ex), .val (.int (if (own_L nn c0 c1) = (own_L mm d0 d1) ∧ (own_st wP wL wC wF kk) = (own_st wP wL wC wF kj) ∧ p3 = m2 then (1 : Int32) else 0)), .val (.int (if (own_L mm d0 d1) = (own_L nn c0 c1) ∧ (own_st wP wL wC wF kj) = (own_st wP wL wC wF kk) ∧ m2 = p3 then (1 : Int32) else 0)), .unset] [])) _
              refine own_back (fun t k => XS.aconstNull X898.here hx rfl (hb hby at_275) k) ?_
              show OwnGo p e below (T898.setTop (mkF m 276 #[.val (.int p1), .val (.int p2), .val (.long p3), .second, .val (.long p4), .second, .val (.int p5), .val (.int (Int32.ofNat nn)), .val (.int c0), .val (.int c1), .val (.int (Int32.ofNat kk)), .val (.int (Int32.ofNat mm)), .val (.int d0), .val (.int d1), .val (.int (Int32.ofNat kj)), .val (.long m2), .second, .val (.ref am824), .val (.ref am829), .val (.ref b835), .val (.ref b860), .val (.int so), .val (.int ex), .val (.int (if (own_L nn c0 c1) = (own_L mm d0 d1) ∧ (own_st wP wL wC wF kk) = (own_st wP wL wC wF kj) ∧ p3 = m2 then (1 : Int32) else 0)), .val (.int (if (own_L mm d0 d1) = (own_L nn c0 c1) ∧ (own_st wP wL wC wF kj) = (own_st wP wL wC wF kk) ∧ m2 = p3 then (1 : Int32) else 0)), .unset] [.null])) _
              refine own_back (fun t k => XS.astore X898.here hx rfl (hb hby at_276) rfl rfl (l' := #[.val (.int p1), .val (.int p2), .val (.long p3), .second, .val (.long p4), .second, .val (.int p5), .val (.int (Int32.ofNat nn)), .val (.int c0), .val (.int c1), .val (.int (Int32.ofNat kk)), .val (.int (Int32.ofNat mm)), .val (.int d0), .val (.int d1), .val (.int (Int32.ofNat kj)), .val (.long m2), .second, .val (.ref am824), .val (.ref am829), .val (.ref b835), .val (.ref b860), .val (.int so), .val (.int ex), .val (.int (if (own_L nn c0 c1) = (own_L mm d0 d1) ∧ (own_st wP wL wC wF kk) = (own_st wP wL wC wF kj) ∧ p3 = m2 then (1 : Int32) else 0)), .val (.int (if (own_L mm d0 d1) = (own_L nn c0 c1) ∧ (own_st wP wL wC wF kj) = (own_st wP wL wC wF kk) ∧ m2 = p3 then (1 : Int32) else 0)), .val .null]) rfl k) ?_
              show OwnGo p e below (T898.setTop (mkF m 278 #[.val (.int p1), .val (.int p2), .val (.long p3), .second, .val (.long p4), .second, .val (.int p5), .val (.int (Int32.ofNat nn)), .val (.int c0), .val (.int c1), .val (.int (Int32.ofNat kk)), .val (.int (Int32.ofNat mm)), .val (.int d0), .val (.int d1), .val (.int (Int32.ofNat kj)), .val (.long m2), .second, .val (.ref am824), .val (.ref am829), .val (.ref b835), .val (.ref b860), .val (.int so), .val (.int ex), .val (.int (if (own_L nn c0 c1) = (own_L mm d0 d1) ∧ (own_st wP wL wC wF kk) = (own_st wP wL wC wF kj) ∧ p3 = m2 then (1 : Int32) else 0)), .val (.int (if (own_L mm d0 d1) = (own_L nn c0 c1) ∧ (own_st wP wL wC wF kj) = (own_st wP wL wC wF kk) ∧ m2 = p3 then (1 : Int32) else 0)), .val .null] [])) _
              refine own_back (fun t k => XS.iload X898.here hx rfl (hb hby at_278) rfl k) ?_
              show OwnGo p e below (T898.setTop (mkF m 280 #[.val (.int p1), .val (.int p2), .val (.long p3), .second, .val (.long p4), .second, .val (.int p5), .val (.int (Int32.ofNat nn)), .val (.int c0), .val (.int c1), .val (.int (Int32.ofNat kk)), .val (.int (Int32.ofNat mm)), .val (.int d0), .val (.int d1), .val (.int (Int32.ofNat kj)), .val (.long m2), .second, .val (.ref am824), .val (.ref am829), .val (.ref b835), .val (.ref b860), .val (.int so), .val (.int ex), .val (.int (if (own_L nn c0 c1) = (own_L mm d0 d1) ∧ (own_st wP wL wC wF kk) = (own_st wP wL wC wF kj) ∧ p3 = m2 then (1 : Int32) else 0)), .val (.int (if (own_L mm d0 d1) = (own_L nn c0 c1) ∧ (own_st wP wL wC wF kj) = (own_st wP wL wC wF kk) ∧ m2 = p3 then (1 : Int32) else 0)), .val .null] [(.int (if (own_L nn c0 c1) = (own_L mm d0 d1) ∧ (own_st wP wL wC wF kk) = (own_st wP wL wC wF kj) ∧ p3 = m2 then (1 : Int32) else 0))])) _
              refine own_back (fun t k => XS.iload X898.here hx rfl (hb hby at_280) rfl k) ?_
              show OwnGo p e below (T898.setTop (mkF m 282 #[.val (.int p1), .val (.int p2), .val (.long p3), .second, .val (.long p4), .second, .val (.int p5), .val (.int (Int32.ofNat nn)), .val (.int c0), .val (.int c1), .val (.int (Int32.ofNat kk)), .val (.int (Int32.ofNat mm)), .val (.int d0), .val (.int d1), .val (.int (Int32.ofNat kj)), .val (.long m2), .second, .val (.ref am824), .val (.ref am829), .val (.ref b835), .val (.ref b860), .val (.int so), .val (.int ex), .val (.int (if (own_L nn c0 c1) = (own_L mm d0 d1) ∧ (own_st wP wL wC wF kk) = (own_st wP wL wC wF kj) ∧ p3 = m2 then (1 : Int32) else 0)), .val (.int (if (own_L mm d0 d1) = (own_L nn c0 c1) ∧ (own_st wP wL wC wF kj) = (own_st wP wL wC wF kk) ∧ m2 = p3 then (1 : Int32) else 0)), .val .null] [(.int ex), (.int (if (own_L nn c0 c1) = (own_L mm d0 d1) ∧ (own_st wP wL wC wF kk) = (own_st wP wL wC wF kj) ∧ p3 = m2 then (1 : Int32) else 0))])) _
              refine own_back (fun t k => XS.icmpNo X898.here hx rfl (hb hby at_282) rfl (Jvm.Free.XT.ii_ne_f hex.symm) k) ?_
              show OwnGo p e below (T898.setTop (mkF m 285 #[.val (.int p1), .val (.int p2), .val (.long p3), .second, .val (.long p4), .second, .val (.int p5), .val (.int (Int32.ofNat nn)), .val (.int c0), .val (.int c1), .val (.int (Int32.ofNat kk)), .val (.int (Int32.ofNat mm)), .val (.int d0), .val (.int d1), .val (.int (Int32.ofNat kj)), .val (.long m2), .second, .val (.ref am824), .val (.ref am829), .val (.ref b835), .val (.ref b860), .val (.int so), .val (.int ex), .val (.int (if (own_L nn c0 c1) = (own_L mm d0 d1) ∧ (own_st wP wL wC wF kk) = (own_st wP wL wC wF kj) ∧ p3 = m2 then (1 : Int32) else 0)), .val (.int (if (own_L mm d0 d1) = (own_L nn c0 c1) ∧ (own_st wP wL wC wF kj) = (own_st wP wL wC wF kk) ∧ m2 = p3 then (1 : Int32) else 0)), .val .null] [])) _
              refine own_back (fun t k => XS.iload X898.here hx rfl (hb hby at_285) rfl k) ?_
              show OwnGo p e below (T898.setTop (mkF m 287 #[.val (.int p1), .val (.int p2), .val (.long p3), .second, .val (.long p4), .second, .val (.int p5), .val (.int (Int32.ofNat nn)), .val (.int c0), .val (.int c1), .val (.int (Int32.ofNat kk)), .val (.int (Int32.ofNat mm)), .val (.int d0), .val (.int d1), .val (.int (Int32.ofNat kj)), .val (.long m2), .second, .val (.ref am824), .val (.ref am829), .val (.ref b835), .val (.ref b860), .val (.int so), .val (.int ex), .val (.int (if (own_L nn c0 c1) = (own_L mm d0 d1) ∧ (own_st wP wL wC wF kk) = (own_st wP wL wC wF kj) ∧ p3 = m2 then (1 : Int32) else 0)), .val (.int (if (own_L mm d0 d1) = (own_L nn c0 c1) ∧ (own_st wP wL wC wF kj) = (own_st wP wL wC wF kk) ∧ m2 = p3 then (1 : Int32) else 0)), .val .null] [(.int (if (own_L mm d0 d1) = (own_L nn c0 c1) ∧ (own_st wP wL wC wF kj) = (own_st wP wL wC wF kk) ∧ m2 = p3 then (1 : Int32) else 0))])) _
              refine own_back (fun t k => XS.iload X898.here hx rfl (hb hby at_287) rfl k) ?_
              show OwnGo p e below (T898.setTop (mkF m 289 #[.val (.int p1), .val (.int p2), .val (.long p3), .second, .val (.long p4), .second, .val (.int p5), .val (.int (Int32.ofNat nn)), .val (.int c0), .val (.int c1), .val (.int (Int32.ofNat kk)), .val (.int (Int32.ofNat mm)), .val (.int d0), .val (.int d1), .val (.int (Int32.ofNat kj)), .val (.long m2), .second, .val (.ref am824), .val (.ref am829), .val (.ref b835), .val (.ref b860), .val (.int so), .val (.int ex), .val (.int (if (own_L nn c0 c1) = (own_L mm d0 d1) ∧ (own_st wP wL wC wF kk) = (own_st wP wL wC wF kj) ∧ p3 = m2 then (1 : Int32) else 0)), .val (.int (if (own_L mm d0 d1) = (own_L nn c0 c1) ∧ (own_st wP wL wC wF kj) = (own_st wP wL wC wF kk) ∧ m2 = p3 then (1 : Int32) else 0)), .val .null] [(.int ex), (.int (if (own_L mm d0 d1) = (own_L nn c0 c1) ∧ (own_st wP wL wC wF kj) = (own_st wP wL wC wF kk) ∧ m2 = p3 then (1 : Int32) else 0))])) _
              refine own_back (fun t k => XS.icmpNo X898.here hx rfl (hb hby at_289) rfl (Jvm.Free.XT.ii_ne_f (own_isw.trans hex.symm)) k) ?_
              show OwnGo p e below (T898.setTop (mkF m 292 #[.val (.int p1), .val (.int p2), .val (.long p3), .second, .val (.long p4), .second, .val (.int p5), .val (.int (Int32.ofNat nn)), .val (.int c0), .val (.int c1), .val (.int (Int32.ofNat kk)), .val (.int (Int32.ofNat mm)), .val (.int d0), .val (.int d1), .val (.int (Int32.ofNat kj)), .val (.long m2), .second, .val (.ref am824), .val (.ref am829), .val (.ref b835), .val (.ref b860), .val (.int so), .val (.int ex), .val (.int (if (own_L nn c0 c1) = (own_L mm d0 d1) ∧ (own_st wP wL wC wF kk) = (own_st wP wL wC wF kj) ∧ p3 = m2 then (1 : Int32) else 0)), .val (.int (if (own_L mm d0 d1) = (own_L nn c0 c1) ∧ (own_st wP wL wC wF kj) = (own_st wP wL wC wF kk) ∧ m2 = p3 then (1 : Int32) else 0)), .val .null] [])) _
              refine own_back (fun t k => XS.aload X898.here hx rfl (hb hby at_292) rfl rfl k) ?_
              show OwnGo p e below (T898.setTop (mkF m 294 #[.val (.int p1), .val (.int p2), .val (.long p3), .second, .val (.long p4), .second, .val (.int p5), .val (.int (Int32.ofNat nn)), .val (.int c0), .val (.int c1), .val (.int (Int32.ofNat kk)), .val (.int (Int32.ofNat mm)), .val (.int d0), .val (.int d1), .val (.int (Int32.ofNat kj)), .val (.long m2), .second, .val (.ref am824), .val (.ref am829), .val (.ref b835), .val (.ref b860), .val (.int so), .val (.int ex), .val (.int (if (own_L nn c0 c1) = (own_L mm d0 d1) ∧ (own_st wP wL wC wF kk) = (own_st wP wL wC wF kj) ∧ p3 = m2 then (1 : Int32) else 0)), .val (.int (if (own_L mm d0 d1) = (own_L nn c0 c1) ∧ (own_st wP wL wC wF kj) = (own_st wP wL wC wF kk) ∧ m2 = p3 then (1 : Int32) else 0)), .val .null] [(.ref b835)])) _
              refine own_back (fun t k => XS.aload X898.here hx rfl (hb hby at_294) rfl rfl k) ?_
              show OwnGo p e below (T898.setTop (mkF m 296 #[.val (.int p1), .val (.int p2), .val (.long p3), .second, .val (.long p4), .second, .val (.int p5), .val (.int (Int32.ofNat nn)), .val (.int c0), .val (.int c1), .val (.int (Int32.ofNat kk)), .val (.int (Int32.ofNat mm)), .val (.int d0), .val (.int d1), .val (.int (Int32.ofNat kj)), .val (.long m2), .second, .val (.ref am824), .val (.ref am829), .val (.ref b835), .val (.ref b860), .val (.int so), .val (.int ex), .val (.int (if (own_L nn c0 c1) = (own_L mm d0 d1) ∧ (own_st wP wL wC wF kk) = (own_st wP wL wC wF kj) ∧ p3 = m2 then (1 : Int32) else 0)), .val (.int (if (own_L mm d0 d1) = (own_L nn c0 c1) ∧ (own_st wP wL wC wF kj) = (own_st wP wL wC wF kk) ∧ m2 = p3 then (1 : Int32) else 0)), .val .null] [(.ref b835), (.ref b835)])) _
              obtain ⟨cq900, kq900, q900a, q900b, q900c⟩ := isOf hZj896 hh898 hs896_2
              obtain ⟨_, _, ⟨T900, L900, k900, n900⟩, -, X900, ⟨Lc900, hQ900, l900, y900, z900⟩, st900⟩ := X898.virtualBack hx (y := (⟨"com/example/lease/lease/OwnerCount", "equals", "(Ljava/lang/Object;)Z"⟩ : MethodName)) (z := (⟨"com/example/lease/lease/OwnerCount", "equals", "(Ljava/lang/Object;)Z"⟩ : MethodName)) hownj896 (mvT hZj896 (hw _ (List.mem_of_getElem? (i := 93) rfl))) (mvT hZj896 (hw _ (List.mem_of_getElem? (i := 94) rfl))) (notFace_of_selects (args := #[]) (mvT hZj896 (hw _ (List.mem_of_getElem? (i := 96) rfl)))) (mvT hZj896 (hw _ (List.mem_of_getElem? (i := 96) rfl))) (mvT hZj896 (hw _ (List.mem_of_getElem? (i := 95) rfl))) (by decide) (own_backN (W := 0) (rm_oeq l Z a0 hw [] b835 b835 am824 am824 (own_st wP wL wC wF kk) (own_st wP wL wC wF kk) p3 p3 (own_L nn c0 c1) (own_L nn c0 c1) cz hj896 n0 Zj896 Oj896 hs896_2 hs896_2 hs896_3 hs896_4 hs896_5 hs896_3 hs896_4 hs896_5 hs896_0 hs896_0 SC hcz) hZj896 (hw _ (List.mem_of_getElem? (i := 97) rfl)) (hw _ (List.mem_of_getElem? (i := 28) rfl)) (by decide) (by decide)) q900a q900c (g := (mkF m 296 #[.val (.int p1), .val (.int p2), .val (.long p3), .second, .val (.long p4), .second, .val (.int p5), .val (.int (Int32.ofNat nn)), .val (.int c0), .val (.int c1), .val (.int (Int32.ofNat kk)), .val (.int (Int32.ofNat mm)), .val (.int d0), .val (.int d1), .val (.int (Int32.ofNat kj)), .val (.long m2), .second, .val (.ref am824), .val (.ref am829), .val (.ref b835), .val (.ref b860), .val (.int so), .val (.int ex), .val (.int (if (own_L nn c0 c1) = (own_L mm d0 d1) ∧ (own_st wP wL wC wF kk) = (own_st wP wL wC wF kj) ∧ p3 = m2 then (1 : Int32) else 0)), .val (.int (if (own_L mm d0 d1) = (own_L nn c0 c1) ∧ (own_st wP wL wC wF kj) = (own_st wP wL wC wF kk) ∧ m2 = p3 then (1 : Int32) else 0)), .val .null] [(.ref b835), (.ref b835)])) rfl (by rw [hml]; rfl) (Steps.refl _) (argsL := [(.ref b835)]) (rest := []) (lenOf lw_pd3 rfl) rfl (by show 2 * 0 + _ ≤ _; exact Nat.le_of_eq rfl) (hb hby at_296) (fun _ _ => ⟨rfl, hh898, Nat.le_of_ble_eq_true rfl, Nat.le_of_ble_eq_true rfl⟩)
              dsimp only [Pt.U, Pt.locs, Pt.cells, Pt.slots] at X900 l900 y900 z900 st900 hQ900
              subst l900 y900 z900
              obtain ⟨rfl, N900q, hh900⟩ := hQ900
              refine own_seq st900 ?_
              have N900 := Fr.app N898 N900q
              show OwnGo p e below (T900.setTop (mkF m 299 #[.val (.int p1), .val (.int p2), .val (.long p3), .second, .val (.long p4), .second, .val (.int p5), .val (.int (Int32.ofNat nn)), .val (.int c0), .val (.int c1), .val (.int (Int32.ofNat kk)), .val (.int (Int32.ofNat mm)), .val (.int d0), .val (.int d1), .val (.int (Int32.ofNat kj)), .val (.long m2), .second, .val (.ref am824), .val (.ref am829), .val (.ref b835), .val (.ref b860), .val (.int so), .val (.int ex), .val (.int (if (own_L nn c0 c1) = (own_L mm d0 d1) ∧ (own_st wP wL wC wF kk) = (own_st wP wL wC wF kj) ∧ p3 = m2 then (1 : Int32) else 0)), .val (.int (if (own_L mm d0 d1) = (own_L nn c0 c1) ∧ (own_st wP wL wC wF kj) = (own_st wP wL wC wF kk) ∧ m2 = p3 then (1 : Int32) else 0)), .val .null] [(.int (if (own_L nn c0 c1) = (own_L nn c0 c1) ∧ (own_st wP wL wC wF kk) = (own_st wP wL wC wF kk) ∧ p3 = p3 then (1 : Int32) else 0))])) _
              refine own_back (fun t k => XS.ifNo X900.here hx rfl (hb hby at_299) rfl (Jvm.Free.XT.i0_eq_f (by rw [if_pos ⟨rfl, rfl, rfl⟩]; decide)) k) ?_
              show OwnGo p e below (T900.setTop (mkF m 302 #[.val (.int p1), .val (.int p2), .val (.long p3), .second, .val (.long p4), .second, .val (.int p5), .val (.int (Int32.ofNat nn)), .val (.int c0), .val (.int c1), .val (.int (Int32.ofNat kk)), .val (.int (Int32.ofNat mm)), .val (.int d0), .val (.int d1), .val (.int (Int32.ofNat kj)), .val (.long m2), .second, .val (.ref am824), .val (.ref am829), .val (.ref b835), .val (.ref b860), .val (.int so), .val (.int ex), .val (.int (if (own_L nn c0 c1) = (own_L mm d0 d1) ∧ (own_st wP wL wC wF kk) = (own_st wP wL wC wF kj) ∧ p3 = m2 then (1 : Int32) else 0)), .val (.int (if (own_L mm d0 d1) = (own_L nn c0 c1) ∧ (own_st wP wL wC wF kj) = (own_st wP wL wC wF kk) ∧ m2 = p3 then (1 : Int32) else 0)), .val .null] [])) _
              refine own_back (fun t k => XS.aload X900.here hx rfl (hb hby at_302) rfl rfl k) ?_
              show OwnGo p e below (T900.setTop (mkF m 304 #[.val (.int p1), .val (.int p2), .val (.long p3), .second, .val (.long p4), .second, .val (.int p5), .val (.int (Int32.ofNat nn)), .val (.int c0), .val (.int c1), .val (.int (Int32.ofNat kk)), .val (.int (Int32.ofNat mm)), .val (.int d0), .val (.int d1), .val (.int (Int32.ofNat kj)), .val (.long m2), .second, .val (.ref am824), .val (.ref am829), .val (.ref b835), .val (.ref b860), .val (.int so), .val (.int ex), .val (.int (if (own_L nn c0 c1) = (own_L mm d0 d1) ∧ (own_st wP wL wC wF kk) = (own_st wP wL wC wF kj) ∧ p3 = m2 then (1 : Int32) else 0)), .val (.int (if (own_L mm d0 d1) = (own_L nn c0 c1) ∧ (own_st wP wL wC wF kj) = (own_st wP wL wC wF kk) ∧ m2 = p3 then (1 : Int32) else 0)), .val .null] [(.ref b835)])) _
              refine own_back (fun t k => XS.aload X900.here hx rfl (hb hby at_304) rfl rfl k) ?_
              show OwnGo p e below (T900.setTop (mkF m 306 #[.val (.int p1), .val (.int p2), .val (.long p3), .second, .val (.long p4), .second, .val (.int p5), .val (.int (Int32.ofNat nn)), .val (.int c0), .val (.int c1), .val (.int (Int32.ofNat kk)), .val (.int (Int32.ofNat mm)), .val (.int d0), .val (.int d1), .val (.int (Int32.ofNat kj)), .val (.long m2), .second, .val (.ref am824), .val (.ref am829), .val (.ref b835), .val (.ref b860), .val (.int so), .val (.int ex), .val (.int (if (own_L nn c0 c1) = (own_L mm d0 d1) ∧ (own_st wP wL wC wF kk) = (own_st wP wL wC wF kj) ∧ p3 = m2 then (1 : Int32) else 0)), .val (.int (if (own_L mm d0 d1) = (own_L nn c0 c1) ∧ (own_st wP wL wC wF kj) = (own_st wP wL wC wF kk) ∧ m2 = p3 then (1 : Int32) else 0)), .val .null] [.null, (.ref b835)])) _
              obtain ⟨cq901, kq901, q901a, q901b, q901c⟩ := isOf hZj896 hh900 hs896_2
              obtain ⟨_, _, ⟨T901, L901, k901, n901⟩, -, X901, ⟨Lc901, hQ901, l901, y901, z901⟩, st901⟩ := X900.virtualBack hx (y := (⟨"com/example/lease/lease/OwnerCount", "equals", "(Ljava/lang/Object;)Z"⟩ : MethodName)) (z := (⟨"com/example/lease/lease/OwnerCount", "equals", "(Ljava/lang/Object;)Z"⟩ : MethodName)) hownj896 (mvT hZj896 (hw _ (List.mem_of_getElem? (i := 93) rfl))) (mvT hZj896 (hw _ (List.mem_of_getElem? (i := 94) rfl))) (notFace_of_selects (args := #[]) (mvT hZj896 (hw _ (List.mem_of_getElem? (i := 96) rfl)))) (mvT hZj896 (hw _ (List.mem_of_getElem? (i := 96) rfl))) (mvT hZj896 (hw _ (List.mem_of_getElem? (i := 95) rfl))) (by decide) (own_backN (W := 0) (rm_oeqn l Z a0 hw [] b835 hj896 n0 Zj896) hZj896 (hw _ (List.mem_of_getElem? (i := 97) rfl)) (hw _ (List.mem_of_getElem? (i := 28) rfl)) (by decide) (by decide)) q901a q901c (g := (mkF m 306 #[.val (.int p1), .val (.int p2), .val (.long p3), .second, .val (.long p4), .second, .val (.int p5), .val (.int (Int32.ofNat nn)), .val (.int c0), .val (.int c1), .val (.int (Int32.ofNat kk)), .val (.int (Int32.ofNat mm)), .val (.int d0), .val (.int d1), .val (.int (Int32.ofNat kj)), .val (.long m2), .second, .val (.ref am824), .val (.ref am829), .val (.ref b835), .val (.ref b860), .val (.int so), .val (.int ex), .val (.int (if (own_L nn c0 c1) = (own_L mm d0 d1) ∧ (own_st wP wL wC wF kk) = (own_st wP wL wC wF kj) ∧ p3 = m2 then (1 : Int32) else 0)), .val (.int (if (own_L mm d0 d1) = (own_L nn c0 c1) ∧ (own_st wP wL wC wF kj) = (own_st wP wL wC wF kk) ∧ m2 = p3 then (1 : Int32) else 0)), .val .null] [.null, (.ref b835)])) rfl (by rw [hml]; rfl) (Steps.refl _) (argsL := [.null]) (rest := []) (lenOf lw_pd3 rfl) rfl (by show 2 * 0 + _ ≤ _; exact Nat.le_of_eq rfl) (hb hby at_306) (fun _ _ => ⟨rfl, hh900, Nat.le_of_ble_eq_true rfl, Nat.le_of_ble_eq_true rfl⟩)
              dsimp only [Pt.U, Pt.locs, Pt.cells, Pt.slots] at X901 l901 y901 z901 st901 hQ901
              subst l901 y901 z901
              obtain ⟨rfl, N901q, hh901⟩ := hQ901
              refine own_seq st901 ?_
              have N901 := Fr.app N900 N901q
              show OwnGo p e below (T901.setTop (mkF m 309 #[.val (.int p1), .val (.int p2), .val (.long p3), .second, .val (.long p4), .second, .val (.int p5), .val (.int (Int32.ofNat nn)), .val (.int c0), .val (.int c1), .val (.int (Int32.ofNat kk)), .val (.int (Int32.ofNat mm)), .val (.int d0), .val (.int d1), .val (.int (Int32.ofNat kj)), .val (.long m2), .second, .val (.ref am824), .val (.ref am829), .val (.ref b835), .val (.ref b860), .val (.int so), .val (.int ex), .val (.int (if (own_L nn c0 c1) = (own_L mm d0 d1) ∧ (own_st wP wL wC wF kk) = (own_st wP wL wC wF kj) ∧ p3 = m2 then (1 : Int32) else 0)), .val (.int (if (own_L mm d0 d1) = (own_L nn c0 c1) ∧ (own_st wP wL wC wF kj) = (own_st wP wL wC wF kk) ∧ m2 = p3 then (1 : Int32) else 0)), .val .null] [(.int (0 : Int32))])) _
              refine own_back (fun t k => XS.ifNo X901.here hx rfl (hb hby at_309) rfl (Jvm.Free.XT.i0_ne_f (by decide)) k) ?_
              show OwnGo p e below (T901.setTop (mkF m 312 #[.val (.int p1), .val (.int p2), .val (.long p3), .second, .val (.long p4), .second, .val (.int p5), .val (.int (Int32.ofNat nn)), .val (.int c0), .val (.int c1), .val (.int (Int32.ofNat kk)), .val (.int (Int32.ofNat mm)), .val (.int d0), .val (.int d1), .val (.int (Int32.ofNat kj)), .val (.long m2), .second, .val (.ref am824), .val (.ref am829), .val (.ref b835), .val (.ref b860), .val (.int so), .val (.int ex), .val (.int (if (own_L nn c0 c1) = (own_L mm d0 d1) ∧ (own_st wP wL wC wF kk) = (own_st wP wL wC wF kj) ∧ p3 = m2 then (1 : Int32) else 0)), .val (.int (if (own_L mm d0 d1) = (own_L nn c0 c1) ∧ (own_st wP wL wC wF kj) = (own_st wP wL wC wF kk) ∧ m2 = p3 then (1 : Int32) else 0)), .val .null] [])) _
              refine own_back (fun t k => XS.iconst X901.here hx rfl (hb hby at_312) k) ?_
              show OwnGo p e below (T901.setTop (mkF m 313 #[.val (.int p1), .val (.int p2), .val (.long p3), .second, .val (.long p4), .second, .val (.int p5), .val (.int (Int32.ofNat nn)), .val (.int c0), .val (.int c1), .val (.int (Int32.ofNat kk)), .val (.int (Int32.ofNat mm)), .val (.int d0), .val (.int d1), .val (.int (Int32.ofNat kj)), .val (.long m2), .second, .val (.ref am824), .val (.ref am829), .val (.ref b835), .val (.ref b860), .val (.int so), .val (.int ex), .val (.int (if (own_L nn c0 c1) = (own_L mm d0 d1) ∧ (own_st wP wL wC wF kk) = (own_st wP wL wC wF kj) ∧ p3 = m2 then (1 : Int32) else 0)), .val (.int (if (own_L mm d0 d1) = (own_L nn c0 c1) ∧ (own_st wP wL wC wF kj) = (own_st wP wL wC wF kk) ∧ m2 = p3 then (1 : Int32) else 0)), .val .null] [(.int (1 : Int32))])) _
              refine own_back (fun t k => XS.goto X901.here hx rfl (pc0 := 313) (pc' := 317) rfl (hb hby at_313) (by decide) (by decide) k) ?_
              show OwnGo p e below (T901.setTop (mkF m 317 #[.val (.int p1), .val (.int p2), .val (.long p3), .second, .val (.long p4), .second, .val (.int p5), .val (.int (Int32.ofNat nn)), .val (.int c0), .val (.int c1), .val (.int (Int32.ofNat kk)), .val (.int (Int32.ofNat mm)), .val (.int d0), .val (.int d1), .val (.int (Int32.ofNat kj)), .val (.long m2), .second, .val (.ref am824), .val (.ref am829), .val (.ref b835), .val (.ref b860), .val (.int so), .val (.int ex), .val (.int (if (own_L nn c0 c1) = (own_L mm d0 d1) ∧ (own_st wP wL wC wF kk) = (own_st wP wL wC wF kj) ∧ p3 = m2 then (1 : Int32) else 0)), .val (.int (if (own_L mm d0 d1) = (own_L nn c0 c1) ∧ (own_st wP wL wC wF kj) = (own_st wP wL wC wF kk) ∧ m2 = p3 then (1 : Int32) else 0)), .val .null] [(.int (1 : Int32))])) _
              refine own_retNW X901 hx Bd.notSynchronized (t := .boolean) (z := (1 : Int32)) Bd.returns (by simp) rfl hSj896 hkj896 hZj896 hEL (hh ▸ CRj896) (hb hby at_317) hh901 (Nat.le_of_ble_eq_true rfl) (Nat.le_of_ble_eq_true rfl) ?_
              exact ⟨rfl, N901⟩
            · refine own_back (fun t k => XS.ifNo X898.here hx rfl (hb hby at_267) rfl (Jvm.Free.XT.i0_eq_f hc267_899) k) ?_
              show OwnGo p e below (T898.setTop (mkF m 270 #[.val (.int p1), .val (.int p2), .val (.long p3), .second, .val (.long p4), .second, .val (.int p5), .val (.int (Int32.ofNat nn)), .val (.int c0), .val (.int c1), .val (.int (Int32.ofNat kk)), .val (.int (Int32.ofNat mm)), .val (.int d0), .val (.int d1), .val (.int (Int32.ofNat kj)), .val (.long m2), .second, .val (.ref am824), .val (.ref am829), .val (.ref b835), .val (.ref b860), .val (.int so), .val (.int ex), .val (.int (if (own_L nn c0 c1) = (own_L mm d0 d1) ∧ (own_st wP wL wC wF kk) = (own_st wP wL wC wF kj) ∧ p3 = m2 then (1 : Int32) else 0)), .val (.int (if (own_L mm d0 d1) = (own_L nn c0 c1) ∧ (own_st wP wL wC wF kj) = (own_st wP wL wC wF kk) ∧ m2 = p3 then (1 : Int32) else 0)), .unset] [])) _
              refine own_back (fun t k => XS.aload X898.here hx rfl (hb hby at_270) rfl rfl k) ?_
              show OwnGo p e below (T898.setTop (mkF m 272 #[.val (.int p1), .val (.int p2), .val (.long p3), .second, .val (.long p4), .second, .val (.int p5), .val (.int (Int32.ofNat nn)), .val (.int c0), .val (.int c1), .val (.int (Int32.ofNat kk)), .val (.int (Int32.ofNat mm)), .val (.int d0), .val (.int d1), .val (.int (Int32.ofNat kj)), .val (.long m2), .second, .val (.ref am824), .val (.ref am829), .val (.ref b835), .val (.ref b860), .val (.int so), .val (.int ex), .val (.int (if (own_L nn c0 c1) = (own_L mm d0 d1) ∧ (own_st wP wL wC wF kk) = (own_st wP wL wC wF kj) ∧ p3 = m2 then (1 : Int32) else 0)), .val (.int (if (own_L mm d0 d1) = (own_L nn c0 c1) ∧ (own_st wP wL wC wF kj) = (own_st wP wL wC wF kk) ∧ m2 = p3 then (1 : Int32) else 0)), .unset] [(.ref am824)])) _
              refine own_back (fun t k => XS.goto X898.here hx rfl (pc0 := 272) (pc' := 276) rfl (hb hby at_272) (by decide) (by decide) k) ?_
              show OwnGo p e below (T898.setTop (mkF m 276 #[.val (.int p1), .val (.int p2), .val (.long p3), .second, .val (.long p4), .second, .val (.int p5), .val (.int (Int32.ofNat nn)), .val (.int c0), .val (.int c1), .val (.int (Int32.ofNat kk)), .val (.int (Int32.ofNat mm)), .val (.int d0), .val (.int d1), .val (.int (Int32.ofNat kj)), .val (.long m2), .second, .val (.ref am824), .val (.ref am829), .val (.ref b835), .val (.ref b860), .val (.int so), .val (.int ex), .val (.int (if (own_L nn c0 c1) = (own_L mm d0 d1) ∧ (own_st wP wL wC wF kk) = (own_st wP wL wC wF kj) ∧ p3 = m2 then (1 : Int32) else 0)), .val (.int (if (own_L mm d0 d1) = (own_L nn c0 c1) ∧ (own_st wP wL wC wF kj) = (own_st wP wL wC wF kk) ∧ m2 = p3 then (1 : Int32) else 0)), .unset] [(.ref am824)])) _
              refine own_back (fun t k => XS.astore X898.here hx rfl (hb hby at_276) rfl rfl (l' := #[.val (.int p1), .val (.int p2), .val (.long p3), .second, .val (.long p4), .second, .val (.int p5), .val (.int (Int32.ofNat nn)), .val (.int c0), .val (.int c1), .val (.int (Int32.ofNat kk)), .val (.int (Int32.ofNat mm)), .val (.int d0), .val (.int d1), .val (.int (Int32.ofNat kj)), .val (.long m2), .second, .val (.ref am824), .val (.ref am829), .val (.ref b835), .val (.ref b860), .val (.int so), .val (.int ex), .val (.int (if (own_L nn c0 c1) = (own_L mm d0 d1) ∧ (own_st wP wL wC wF kk) = (own_st wP wL wC wF kj) ∧ p3 = m2 then (1 : Int32) else 0)), .val (.int (if (own_L mm d0 d1) = (own_L nn c0 c1) ∧ (own_st wP wL wC wF kj) = (own_st wP wL wC wF kk) ∧ m2 = p3 then (1 : Int32) else 0)), .val (.ref am824)]) rfl k) ?_
              show OwnGo p e below (T898.setTop (mkF m 278 #[.val (.int p1), .val (.int p2), .val (.long p3), .second, .val (.long p4), .second, .val (.int p5), .val (.int (Int32.ofNat nn)), .val (.int c0), .val (.int c1), .val (.int (Int32.ofNat kk)), .val (.int (Int32.ofNat mm)), .val (.int d0), .val (.int d1), .val (.int (Int32.ofNat kj)), .val (.long m2), .second, .val (.ref am824), .val (.ref am829), .val (.ref b835), .val (.ref b860), .val (.int so), .val (.int ex), .val (.int (if (own_L nn c0 c1) = (own_L mm d0 d1) ∧ (own_st wP wL wC wF kk) = (own_st wP wL wC wF kj) ∧ p3 = m2 then (1 : Int32) else 0)), .val (.int (if (own_L mm d0 d1) = (own_L nn c0 c1) ∧ (own_st wP wL wC wF kj) = (own_st wP wL wC wF kk) ∧ m2 = p3 then (1 : Int32) else 0)), .val (.ref am824)] [])) _
              refine own_back (fun t k => XS.iload X898.here hx rfl (hb hby at_278) rfl k) ?_
              show OwnGo p e below (T898.setTop (mkF m 280 #[.val (.int p1), .val (.int p2), .val (.long p3), .second, .val (.long p4), .second, .val (.int p5), .val (.int (Int32.ofNat nn)), .val (.int c0), .val (.int c1), .val (.int (Int32.ofNat kk)), .val (.int (Int32.ofNat mm)), .val (.int d0), .val (.int d1), .val (.int (Int32.ofNat kj)), .val (.long m2), .second, .val (.ref am824), .val (.ref am829), .val (.ref b835), .val (.ref b860), .val (.int so), .val (.int ex), .val (.int (if (own_L nn c0 c1) = (own_L mm d0 d1) ∧ (own_st wP wL wC wF kk) = (own_st wP wL wC wF kj) ∧ p3 = m2 then (1 : Int32) else 0)), .val (.int (if (own_L mm d0 d1) = (own_L nn c0 c1) ∧ (own_st wP wL wC wF kj) = (own_st wP wL wC wF kk) ∧ m2 = p3 then (1 : Int32) else 0)), .val (.ref am824)] [(.int (if (own_L nn c0 c1) = (own_L mm d0 d1) ∧ (own_st wP wL wC wF kk) = (own_st wP wL wC wF kj) ∧ p3 = m2 then (1 : Int32) else 0))])) _
              refine own_back (fun t k => XS.iload X898.here hx rfl (hb hby at_280) rfl k) ?_
              show OwnGo p e below (T898.setTop (mkF m 282 #[.val (.int p1), .val (.int p2), .val (.long p3), .second, .val (.long p4), .second, .val (.int p5), .val (.int (Int32.ofNat nn)), .val (.int c0), .val (.int c1), .val (.int (Int32.ofNat kk)), .val (.int (Int32.ofNat mm)), .val (.int d0), .val (.int d1), .val (.int (Int32.ofNat kj)), .val (.long m2), .second, .val (.ref am824), .val (.ref am829), .val (.ref b835), .val (.ref b860), .val (.int so), .val (.int ex), .val (.int (if (own_L nn c0 c1) = (own_L mm d0 d1) ∧ (own_st wP wL wC wF kk) = (own_st wP wL wC wF kj) ∧ p3 = m2 then (1 : Int32) else 0)), .val (.int (if (own_L mm d0 d1) = (own_L nn c0 c1) ∧ (own_st wP wL wC wF kj) = (own_st wP wL wC wF kk) ∧ m2 = p3 then (1 : Int32) else 0)), .val (.ref am824)] [(.int ex), (.int (if (own_L nn c0 c1) = (own_L mm d0 d1) ∧ (own_st wP wL wC wF kk) = (own_st wP wL wC wF kj) ∧ p3 = m2 then (1 : Int32) else 0))])) _
              refine own_back (fun t k => XS.icmpNo X898.here hx rfl (hb hby at_282) rfl (Jvm.Free.XT.ii_ne_f hex.symm) k) ?_
              show OwnGo p e below (T898.setTop (mkF m 285 #[.val (.int p1), .val (.int p2), .val (.long p3), .second, .val (.long p4), .second, .val (.int p5), .val (.int (Int32.ofNat nn)), .val (.int c0), .val (.int c1), .val (.int (Int32.ofNat kk)), .val (.int (Int32.ofNat mm)), .val (.int d0), .val (.int d1), .val (.int (Int32.ofNat kj)), .val (.long m2), .second, .val (.ref am824), .val (.ref am829), .val (.ref b835), .val (.ref b860), .val (.int so), .val (.int ex), .val (.int (if (own_L nn c0 c1) = (own_L mm d0 d1) ∧ (own_st wP wL wC wF kk) = (own_st wP wL wC wF kj) ∧ p3 = m2 then (1 : Int32) else 0)), .val (.int (if (own_L mm d0 d1) = (own_L nn c0 c1) ∧ (own_st wP wL wC wF kj) = (own_st wP wL wC wF kk) ∧ m2 = p3 then (1 : Int32) else 0)), .val (.ref am824)] [])) _
              refine own_back (fun t k => XS.iload X898.here hx rfl (hb hby at_285) rfl k) ?_
              show OwnGo p e below (T898.setTop (mkF m 287 #[.val (.int p1), .val (.int p2), .val (.long p3), .second, .val (.long p4), .second, .val (.int p5), .val (.int (Int32.ofNat nn)), .val (.int c0), .val (.int c1), .val (.int (Int32.ofNat kk)), .val (.int (Int32.ofNat mm)), .val (.int d0), .val (.int d1), .val (.int (Int32.ofNat kj)), .val (.long m2), .second, .val (.ref am824), .val (.ref am829), .val (.ref b835), .val (.ref b860), .val (.int so), .val (.int ex), .val (.int (if (own_L nn c0 c1) = (own_L mm d0 d1) ∧ (own_st wP wL wC wF kk) = (own_st wP wL wC wF kj) ∧ p3 = m2 then (1 : Int32) else 0)), .val (.int (if (own_L mm d0 d1) = (own_L nn c0 c1) ∧ (own_st wP wL wC wF kj) = (own_st wP wL wC wF kk) ∧ m2 = p3 then (1 : Int32) else 0)), .val (.ref am824)] [(.int (if (own_L mm d0 d1) = (own_L nn c0 c1) ∧ (own_st wP wL wC wF kj) = (own_st wP wL wC wF kk) ∧ m2 = p3 then (1 : Int32) else 0))])) _
              refine own_back (fun t k => XS.iload X898.here hx rfl (hb hby at_287) rfl k) ?_
              show OwnGo p e below (T898.setTop (mkF m 289 #[.val (.int p1), .val (.int p2), .val (.long p3), .second, .val (.long p4), .second, .val (.int p5), .val (.int (Int32.ofNat nn)), .val (.int c0), .val (.int c1), .val (.int (Int32.ofNat kk)), .val (.int (Int32.ofNat mm)), .val (.int d0), .val (.int d1), .val (.int (Int32.ofNat kj)), .val (.long m2), .second, .val (.ref am824), .val (.ref am829), .val (.ref b835), .val (.ref b860), .val (.int so), .val (.int ex), .val (.int (if (own_L nn c0 c1) = (own_L mm d0 d1) ∧ (own_st wP wL wC wF kk) = (own_st wP wL wC wF kj) ∧ p3 = m2 then (1 : Int32) else 0)), .val (.int (if (own_L mm d0 d1) = (own_L nn c0 c1) ∧ (own_st wP wL wC wF kj) = (own_st wP wL wC wF kk) ∧ m2 = p3 then (1 : Int32) else 0)), .val (.ref am824)] [(.int ex), (.int (if (own_L mm d0 d1) = (own_L nn c0 c1) ∧ (own_st wP wL wC wF kj) = (own_st wP wL wC wF kk) ∧ m2 = p3 then (1 : Int32) else 0))])) _
              refine own_back (fun t k => XS.icmpNo X898.here hx rfl (hb hby at_289) rfl (Jvm.Free.XT.ii_ne_f (own_isw.trans hex.symm)) k) ?_
              show OwnGo p e below (T898.setTop (mkF m 292 #[.val (.int p1), .val (.int p2), .val (.long p3), .second, .val (.long p4), .second, .val (.int p5), .val (.int (Int32.ofNat nn)), .val (.int c0), .val (.int c1), .val (.int (Int32.ofNat kk)), .val (.int (Int32.ofNat mm)), .val (.int d0), .val (.int d1), .val (.int (Int32.ofNat kj)), .val (.long m2), .second, .val (.ref am824), .val (.ref am829), .val (.ref b835), .val (.ref b860), .val (.int so), .val (.int ex), .val (.int (if (own_L nn c0 c1) = (own_L mm d0 d1) ∧ (own_st wP wL wC wF kk) = (own_st wP wL wC wF kj) ∧ p3 = m2 then (1 : Int32) else 0)), .val (.int (if (own_L mm d0 d1) = (own_L nn c0 c1) ∧ (own_st wP wL wC wF kj) = (own_st wP wL wC wF kk) ∧ m2 = p3 then (1 : Int32) else 0)), .val (.ref am824)] [])) _
              refine own_back (fun t k => XS.aload X898.here hx rfl (hb hby at_292) rfl rfl k) ?_
              show OwnGo p e below (T898.setTop (mkF m 294 #[.val (.int p1), .val (.int p2), .val (.long p3), .second, .val (.long p4), .second, .val (.int p5), .val (.int (Int32.ofNat nn)), .val (.int c0), .val (.int c1), .val (.int (Int32.ofNat kk)), .val (.int (Int32.ofNat mm)), .val (.int d0), .val (.int d1), .val (.int (Int32.ofNat kj)), .val (.long m2), .second, .val (.ref am824), .val (.ref am829), .val (.ref b835), .val (.ref b860), .val (.int so), .val (.int ex), .val (.int (if (own_L nn c0 c1) = (own_L mm d0 d1) ∧ (own_st wP wL wC wF kk) = (own_st wP wL wC wF kj) ∧ p3 = m2 then (1 : Int32) else 0)), .val (.int (if (own_L mm d0 d1) = (own_L nn c0 c1) ∧ (own_st wP wL wC wF kj) = (own_st wP wL wC wF kk) ∧ m2 = p3 then (1 : Int32) else 0)), .val (.ref am824)] [(.ref b835)])) _
              refine own_back (fun t k => XS.aload X898.here hx rfl (hb hby at_294) rfl rfl k) ?_
              show OwnGo p e below (T898.setTop (mkF m 296 #[.val (.int p1), .val (.int p2), .val (.long p3), .second, .val (.long p4), .second, .val (.int p5), .val (.int (Int32.ofNat nn)), .val (.int c0), .val (.int c1), .val (.int (Int32.ofNat kk)), .val (.int (Int32.ofNat mm)), .val (.int d0), .val (.int d1), .val (.int (Int32.ofNat kj)), .val (.long m2), .second, .val (.ref am824), .val (.ref am829), .val (.ref b835), .val (.ref b860), .val (.int so), .val (.int ex), .val (.int (if (own_L nn c0 c1) = (own_L mm d0 d1) ∧ (own_st wP wL wC wF kk) = (own_st wP wL wC wF kj) ∧ p3 = m2 then (1 : Int32) else 0)), .val (.int (if (own_L mm d0 d1) = (own_L nn c0 c1) ∧ (own_st wP wL wC wF kj) = (own_st wP wL wC wF kk) ∧ m2 = p3 then (1 : Int32) else 0)), .val (.ref am824)] [(.ref b835), (.ref b835)])) _
              obtain ⟨cq902, kq902, q902a, q902b, q902c⟩ := isOf hZj896 hh898 hs896_2
              obtain ⟨_, _, ⟨T902, L902, k902, n902⟩, -, X902, ⟨Lc902, hQ902, l902, y902, z902⟩, st902⟩ := X898.virtualBack hx (y := (⟨"com/example/lease/lease/OwnerCount", "equals", "(Ljava/lang/Object;)Z"⟩ : MethodName)) (z := (⟨"com/example/lease/lease/OwnerCount", "equals", "(Ljava/lang/Object;)Z"⟩ : MethodName)) hownj896 (mvT hZj896 (hw _ (List.mem_of_getElem? (i := 93) rfl))) (mvT hZj896 (hw _ (List.mem_of_getElem? (i := 94) rfl))) (notFace_of_selects (args := #[]) (mvT hZj896 (hw _ (List.mem_of_getElem? (i := 96) rfl)))) (mvT hZj896 (hw _ (List.mem_of_getElem? (i := 96) rfl))) (mvT hZj896 (hw _ (List.mem_of_getElem? (i := 95) rfl))) (by decide) (own_backN (W := 0) (rm_oeq l Z a0 hw [] b835 b835 am824 am824 (own_st wP wL wC wF kk) (own_st wP wL wC wF kk) p3 p3 (own_L nn c0 c1) (own_L nn c0 c1) cz hj896 n0 Zj896 Oj896 hs896_2 hs896_2 hs896_3 hs896_4 hs896_5 hs896_3 hs896_4 hs896_5 hs896_0 hs896_0 SC hcz) hZj896 (hw _ (List.mem_of_getElem? (i := 97) rfl)) (hw _ (List.mem_of_getElem? (i := 28) rfl)) (by decide) (by decide)) q902a q902c (g := (mkF m 296 #[.val (.int p1), .val (.int p2), .val (.long p3), .second, .val (.long p4), .second, .val (.int p5), .val (.int (Int32.ofNat nn)), .val (.int c0), .val (.int c1), .val (.int (Int32.ofNat kk)), .val (.int (Int32.ofNat mm)), .val (.int d0), .val (.int d1), .val (.int (Int32.ofNat kj)), .val (.long m2), .second, .val (.ref am824), .val (.ref am829), .val (.ref b835), .val (.ref b860), .val (.int so), .val (.int ex), .val (.int (if (own_L nn c0 c1) = (own_L mm d0 d1) ∧ (own_st wP wL wC wF kk) = (own_st wP wL wC wF kj) ∧ p3 = m2 then (1 : Int32) else 0)), .val (.int (if (own_L mm d0 d1) = (own_L nn c0 c1) ∧ (own_st wP wL wC wF kj) = (own_st wP wL wC wF kk) ∧ m2 = p3 then (1 : Int32) else 0)), .val (.ref am824)] [(.ref b835), (.ref b835)])) rfl (by rw [hml]; rfl) (Steps.refl _) (argsL := [(.ref b835)]) (rest := []) (lenOf lw_pd3 rfl) rfl (by show 2 * 0 + _ ≤ _; exact Nat.le_of_eq rfl) (hb hby at_296) (fun _ _ => ⟨rfl, hh898, Nat.le_of_ble_eq_true rfl, Nat.le_of_ble_eq_true rfl⟩)
              dsimp only [Pt.U, Pt.locs, Pt.cells, Pt.slots] at X902 l902 y902 z902 st902 hQ902
              subst l902 y902 z902
              obtain ⟨rfl, N902q, hh902⟩ := hQ902
              refine own_seq st902 ?_
              have N902 := Fr.app N898 N902q
              show OwnGo p e below (T902.setTop (mkF m 299 #[.val (.int p1), .val (.int p2), .val (.long p3), .second, .val (.long p4), .second, .val (.int p5), .val (.int (Int32.ofNat nn)), .val (.int c0), .val (.int c1), .val (.int (Int32.ofNat kk)), .val (.int (Int32.ofNat mm)), .val (.int d0), .val (.int d1), .val (.int (Int32.ofNat kj)), .val (.long m2), .second, .val (.ref am824), .val (.ref am829), .val (.ref b835), .val (.ref b860), .val (.int so), .val (.int ex), .val (.int (if (own_L nn c0 c1) = (own_L mm d0 d1) ∧ (own_st wP wL wC wF kk) = (own_st wP wL wC wF kj) ∧ p3 = m2 then (1 : Int32) else 0)), .val (.int (if (own_L mm d0 d1) = (own_L nn c0 c1) ∧ (own_st wP wL wC wF kj) = (own_st wP wL wC wF kk) ∧ m2 = p3 then (1 : Int32) else 0)), .val (.ref am824)] [(.int (if (own_L nn c0 c1) = (own_L nn c0 c1) ∧ (own_st wP wL wC wF kk) = (own_st wP wL wC wF kk) ∧ p3 = p3 then (1 : Int32) else 0))])) _
              refine own_back (fun t k => XS.ifNo X902.here hx rfl (hb hby at_299) rfl (Jvm.Free.XT.i0_eq_f (by rw [if_pos ⟨rfl, rfl, rfl⟩]; decide)) k) ?_
              show OwnGo p e below (T902.setTop (mkF m 302 #[.val (.int p1), .val (.int p2), .val (.long p3), .second, .val (.long p4), .second, .val (.int p5), .val (.int (Int32.ofNat nn)), .val (.int c0), .val (.int c1), .val (.int (Int32.ofNat kk)), .val (.int (Int32.ofNat mm)), .val (.int d0), .val (.int d1), .val (.int (Int32.ofNat kj)), .val (.long m2), .second, .val (.ref am824), .val (.ref am829), .val (.ref b835), .val (.ref b860), .val (.int so), .val (.int ex), .val (.int (if (own_L nn c0 c1) = (own_L mm d0 d1) ∧ (own_st wP wL wC wF kk) = (own_st wP wL wC wF kj) ∧ p3 = m2 then (1 : Int32) else 0)), .val (.int (if (own_L mm d0 d1) = (own_L nn c0 c1) ∧ (own_st wP wL wC wF kj) = (own_st wP wL wC wF kk) ∧ m2 = p3 then (1 : Int32) else 0)), .val (.ref am824)] [])) _
              refine own_back (fun t k => XS.aload X902.here hx rfl (hb hby at_302) rfl rfl k) ?_
              show OwnGo p e below (T902.setTop (mkF m 304 #[.val (.int p1), .val (.int p2), .val (.long p3), .second, .val (.long p4), .second, .val (.int p5), .val (.int (Int32.ofNat nn)), .val (.int c0), .val (.int c1), .val (.int (Int32.ofNat kk)), .val (.int (Int32.ofNat mm)), .val (.int d0), .val (.int d1), .val (.int (Int32.ofNat kj)), .val (.long m2), .second, .val (.ref am824), .val (.ref am829), .val (.ref b835), .val (.ref b860), .val (.int so), .val (.int ex), .val (.int (if (own_L nn c0 c1) = (own_L mm d0 d1) ∧ (own_st wP wL wC wF kk) = (own_st wP wL wC wF kj) ∧ p3 = m2 then (1 : Int32) else 0)), .val (.int (if (own_L mm d0 d1) = (own_L nn c0 c1) ∧ (own_st wP wL wC wF kj) = (own_st wP wL wC wF kk) ∧ m2 = p3 then (1 : Int32) else 0)), .val (.ref am824)] [(.ref b835)])) _
              refine own_back (fun t k => XS.aload X902.here hx rfl (hb hby at_304) rfl rfl k) ?_
              show OwnGo p e below (T902.setTop (mkF m 306 #[.val (.int p1), .val (.int p2), .val (.long p3), .second, .val (.long p4), .second, .val (.int p5), .val (.int (Int32.ofNat nn)), .val (.int c0), .val (.int c1), .val (.int (Int32.ofNat kk)), .val (.int (Int32.ofNat mm)), .val (.int d0), .val (.int d1), .val (.int (Int32.ofNat kj)), .val (.long m2), .second, .val (.ref am824), .val (.ref am829), .val (.ref b835), .val (.ref b860), .val (.int so), .val (.int ex), .val (.int (if (own_L nn c0 c1) = (own_L mm d0 d1) ∧ (own_st wP wL wC wF kk) = (own_st wP wL wC wF kj) ∧ p3 = m2 then (1 : Int32) else 0)), .val (.int (if (own_L mm d0 d1) = (own_L nn c0 c1) ∧ (own_st wP wL wC wF kj) = (own_st wP wL wC wF kk) ∧ m2 = p3 then (1 : Int32) else 0)), .val (.ref am824)] [(.ref am824), (.ref b835)])) _
              obtain ⟨cq903, kq903, q903a, q903b, q903c⟩ := isOf hZj896 hh902 hs896_2
              obtain ⟨_, _, ⟨T903, L903, k903, n903⟩, -, X903, ⟨Lc903, hQ903, l903, y903, z903⟩, st903⟩ := X902.virtualBack hx (y := (⟨"com/example/lease/lease/OwnerCount", "equals", "(Ljava/lang/Object;)Z"⟩ : MethodName)) (z := (⟨"com/example/lease/lease/OwnerCount", "equals", "(Ljava/lang/Object;)Z"⟩ : MethodName)) hownj896 (mvT hZj896 (hw _ (List.mem_of_getElem? (i := 93) rfl))) (mvT hZj896 (hw _ (List.mem_of_getElem? (i := 94) rfl))) (notFace_of_selects (args := #[]) (mvT hZj896 (hw _ (List.mem_of_getElem? (i := 96) rfl)))) (mvT hZj896 (hw _ (List.mem_of_getElem? (i := 96) rfl))) (mvT hZj896 (hw _ (List.mem_of_getElem? (i := 95) rfl))) (by decide) (own_backN (W := 0) (rm_oeqs l Z a0 hw [] b835 am824 hj896 n0 Zj896 (OwnStr.exa hs896_0)) hZj896 (hw _ (List.mem_of_getElem? (i := 97) rfl)) (hw _ (List.mem_of_getElem? (i := 28) rfl)) (by decide) (by decide)) q903a q903c (g := (mkF m 306 #[.val (.int p1), .val (.int p2), .val (.long p3), .second, .val (.long p4), .second, .val (.int p5), .val (.int (Int32.ofNat nn)), .val (.int c0), .val (.int c1), .val (.int (Int32.ofNat kk)), .val (.int (Int32.ofNat mm)), .val (.int d0), .val (.int d1), .val (.int (Int32.ofNat kj)), .val (.long m2), .second, .val (.ref am824), .val (.ref am829), .val (.ref b835), .val (.ref b860), .val (.int so), .val (.int ex), .val (.int (if (own_L nn c0 c1) = (own_L mm d0 d1) ∧ (own_st wP wL wC wF kk) = (own_st wP wL wC wF kj) ∧ p3 = m2 then (1 : Int32) else 0)), .val (.int (if (own_L mm d0 d1) = (own_L nn c0 c1) ∧ (own_st wP wL wC wF kj) = (own_st wP wL wC wF kk) ∧ m2 = p3 then (1 : Int32) else 0)), .val (.ref am824)] [(.ref am824), (.ref b835)])) rfl (by rw [hml]; rfl) (Steps.refl _) (argsL := [(.ref am824)]) (rest := []) (lenOf lw_pd3 rfl) rfl (by show 2 * 0 + _ ≤ _; exact Nat.le_of_eq rfl) (hb hby at_306) (fun _ _ => ⟨rfl, hh902, Nat.le_of_ble_eq_true rfl, Nat.le_of_ble_eq_true rfl⟩)
              dsimp only [Pt.U, Pt.locs, Pt.cells, Pt.slots] at X903 l903 y903 z903 st903 hQ903
              subst l903 y903 z903
              obtain ⟨rfl, N903q, hh903⟩ := hQ903
              refine own_seq st903 ?_
              have N903 := Fr.app N902 N903q
              show OwnGo p e below (T903.setTop (mkF m 309 #[.val (.int p1), .val (.int p2), .val (.long p3), .second, .val (.long p4), .second, .val (.int p5), .val (.int (Int32.ofNat nn)), .val (.int c0), .val (.int c1), .val (.int (Int32.ofNat kk)), .val (.int (Int32.ofNat mm)), .val (.int d0), .val (.int d1), .val (.int (Int32.ofNat kj)), .val (.long m2), .second, .val (.ref am824), .val (.ref am829), .val (.ref b835), .val (.ref b860), .val (.int so), .val (.int ex), .val (.int (if (own_L nn c0 c1) = (own_L mm d0 d1) ∧ (own_st wP wL wC wF kk) = (own_st wP wL wC wF kj) ∧ p3 = m2 then (1 : Int32) else 0)), .val (.int (if (own_L mm d0 d1) = (own_L nn c0 c1) ∧ (own_st wP wL wC wF kj) = (own_st wP wL wC wF kk) ∧ m2 = p3 then (1 : Int32) else 0)), .val (.ref am824)] [(.int (0 : Int32))])) _
              refine own_back (fun t k => XS.ifNo X903.here hx rfl (hb hby at_309) rfl (Jvm.Free.XT.i0_ne_f (by decide)) k) ?_
              show OwnGo p e below (T903.setTop (mkF m 312 #[.val (.int p1), .val (.int p2), .val (.long p3), .second, .val (.long p4), .second, .val (.int p5), .val (.int (Int32.ofNat nn)), .val (.int c0), .val (.int c1), .val (.int (Int32.ofNat kk)), .val (.int (Int32.ofNat mm)), .val (.int d0), .val (.int d1), .val (.int (Int32.ofNat kj)), .val (.long m2), .second, .val (.ref am824), .val (.ref am829), .val (.ref b835), .val (.ref b860), .val (.int so), .val (.int ex), .val (.int (if (own_L nn c0 c1) = (own_L mm d0 d1) ∧ (own_st wP wL wC wF kk) = (own_st wP wL wC wF kj) ∧ p3 = m2 then (1 : Int32) else 0)), .val (.int (if (own_L mm d0 d1) = (own_L nn c0 c1) ∧ (own_st wP wL wC wF kj) = (own_st wP wL wC wF kk) ∧ m2 = p3 then (1 : Int32) else 0)), .val (.ref am824)] [])) _
              refine own_back (fun t k => XS.iconst X903.here hx rfl (hb hby at_312) k) ?_
              show OwnGo p e below (T903.setTop (mkF m 313 #[.val (.int p1), .val (.int p2), .val (.long p3), .second, .val (.long p4), .second, .val (.int p5), .val (.int (Int32.ofNat nn)), .val (.int c0), .val (.int c1), .val (.int (Int32.ofNat kk)), .val (.int (Int32.ofNat mm)), .val (.int d0), .val (.int d1), .val (.int (Int32.ofNat kj)), .val (.long m2), .second, .val (.ref am824), .val (.ref am829), .val (.ref b835), .val (.ref b860), .val (.int so), .val (.int ex), .val (.int (if (own_L nn c0 c1) = (own_L mm d0 d1) ∧ (own_st wP wL wC wF kk) = (own_st wP wL wC wF kj) ∧ p3 = m2 then (1 : Int32) else 0)), .val (.int (if (own_L mm d0 d1) = (own_L nn c0 c1) ∧ (own_st wP wL wC wF kj) = (own_st wP wL wC wF kk) ∧ m2 = p3 then (1 : Int32) else 0)), .val (.ref am824)] [(.int (1 : Int32))])) _
              refine own_back (fun t k => XS.goto X903.here hx rfl (pc0 := 313) (pc' := 317) rfl (hb hby at_313) (by decide) (by decide) k) ?_
              show OwnGo p e below (T903.setTop (mkF m 317 #[.val (.int p1), .val (.int p2), .val (.long p3), .second, .val (.long p4), .second, .val (.int p5), .val (.int (Int32.ofNat nn)), .val (.int c0), .val (.int c1), .val (.int (Int32.ofNat kk)), .val (.int (Int32.ofNat mm)), .val (.int d0), .val (.int d1), .val (.int (Int32.ofNat kj)), .val (.long m2), .second, .val (.ref am824), .val (.ref am829), .val (.ref b835), .val (.ref b860), .val (.int so), .val (.int ex), .val (.int (if (own_L nn c0 c1) = (own_L mm d0 d1) ∧ (own_st wP wL wC wF kk) = (own_st wP wL wC wF kj) ∧ p3 = m2 then (1 : Int32) else 0)), .val (.int (if (own_L mm d0 d1) = (own_L nn c0 c1) ∧ (own_st wP wL wC wF kj) = (own_st wP wL wC wF kk) ∧ m2 = p3 then (1 : Int32) else 0)), .val (.ref am824)] [(.int (1 : Int32))])) _
              refine own_retNW X903 hx Bd.notSynchronized (t := .boolean) (z := (1 : Int32)) Bd.returns (by simp) rfl hSj896 hkj896 hZj896 hEL (hh ▸ CRj896) (hb hby at_317) hh903 (Nat.le_of_ble_eq_true rfl) (Nat.le_of_ble_eq_true rfl) ?_
              exact ⟨rfl, N903⟩
          refine own_back (fun t k => XS.iload Xj895.here hx rfl (hb hby at_218) rfl k) ?_
          show OwnGo p e below (Tj895.setTop (mkF m 220 #[.val (.int p1), .val (.int p2), .val (.long p3), .second, .val (.long p4), .second, .val (.int p5), .val (.int (Int32.ofNat nn)), .val (.int c0), .val (.int c1), .val (.int (Int32.ofNat kk)), .val (.int (Int32.ofNat mm)), .val (.int d0), .val (.int d1), .val (.int (Int32.ofNat kj)), .val (.long m2), .second, .val (.ref am824), .val (.ref am829), .val (.ref b835), .val (.ref b860), .val (.int so), .unset, .unset, .unset, .unset] [(.int so)])) _
          by_cases hc220_904 : so = (0 : Int32)
          · refine own_back (fun t k => XS.ifYes Xj895.here hx rfl (pc0 := 220) (pc' := 241) rfl (hb hby at_220) rfl (Jvm.Free.XT.i0_eq_t hc220_904) (by decide) (by decide) k) ?_
            show OwnGo p e below (Tj895.setTop (mkF m 241 #[.val (.int p1), .val (.int p2), .val (.long p3), .second, .val (.long p4), .second, .val (.int p5), .val (.int (Int32.ofNat nn)), .val (.int c0), .val (.int c1), .val (.int (Int32.ofNat kk)), .val (.int (Int32.ofNat mm)), .val (.int d0), .val (.int d1), .val (.int (Int32.ofNat kj)), .val (.long m2), .second, .val (.ref am824), .val (.ref am829), .val (.ref b835), .val (.ref b860), .val (.int so), .unset, .unset, .unset, .unset] [])) _
            refine own_back (fun t k => XS.iconst Xj895.here hx rfl (hb hby at_241) k) ?_
            show OwnGo p e below (Tj895.setTop (mkF m 242 #[.val (.int p1), .val (.int p2), .val (.long p3), .second, .val (.long p4), .second, .val (.int p5), .val (.int (Int32.ofNat nn)), .val (.int c0), .val (.int c1), .val (.int (Int32.ofNat kk)), .val (.int (Int32.ofNat mm)), .val (.int d0), .val (.int d1), .val (.int (Int32.ofNat kj)), .val (.long m2), .second, .val (.ref am824), .val (.ref am829), .val (.ref b835), .val (.ref b860), .val (.int so), .unset, .unset, .unset, .unset] [(.int (0 : Int32))])) _
            exact tl242_896 _ _ (0 : Int32) ⟨_, _, _, Xj895, ej895, hSj895, hkj895, hZj895, hownj895, CRj895, Oj895, KPj895, Zj895, Nj895⟩ hs895_0 hs895_1 hs895_2 hs895_3 hs895_4 hs895_5 hs895_6 hs895_7 hs895_8 hs895_9 ((if_neg (fun z => own_z0 hso hc220_904 z.1)).symm)
          · refine own_back (fun t k => XS.ifNo Xj895.here hx rfl (hb hby at_220) rfl (Jvm.Free.XT.i0_eq_f hc220_904) k) ?_
            show OwnGo p e below (Tj895.setTop (mkF m 223 #[.val (.int p1), .val (.int p2), .val (.long p3), .second, .val (.long p4), .second, .val (.int p5), .val (.int (Int32.ofNat nn)), .val (.int c0), .val (.int c1), .val (.int (Int32.ofNat kk)), .val (.int (Int32.ofNat mm)), .val (.int d0), .val (.int d1), .val (.int (Int32.ofNat kj)), .val (.long m2), .second, .val (.ref am824), .val (.ref am829), .val (.ref b835), .val (.ref b860), .val (.int so), .unset, .unset, .unset, .unset] [])) _
            refine own_back (fun t k => XS.iload Xj895.here hx rfl (hb hby at_223) rfl k) ?_
            show OwnGo p e below (Tj895.setTop (mkF m 225 #[.val (.int p1), .val (.int p2), .val (.long p3), .second, .val (.long p4), .second, .val (.int p5), .val (.int (Int32.ofNat nn)), .val (.int c0), .val (.int c1), .val (.int (Int32.ofNat kk)), .val (.int (Int32.ofNat mm)), .val (.int d0), .val (.int d1), .val (.int (Int32.ofNat kj)), .val (.long m2), .second, .val (.ref am824), .val (.ref am829), .val (.ref b835), .val (.ref b860), .val (.int so), .unset, .unset, .unset, .unset] [(.int (Int32.ofNat kk))])) _
            refine own_back (fun t k => XS.iload Xj895.here hx rfl (hb hby at_225) rfl k) ?_
            show OwnGo p e below (Tj895.setTop (mkF m 227 #[.val (.int p1), .val (.int p2), .val (.long p3), .second, .val (.long p4), .second, .val (.int p5), .val (.int (Int32.ofNat nn)), .val (.int c0), .val (.int c1), .val (.int (Int32.ofNat kk)), .val (.int (Int32.ofNat mm)), .val (.int d0), .val (.int d1), .val (.int (Int32.ofNat kj)), .val (.long m2), .second, .val (.ref am824), .val (.ref am829), .val (.ref b835), .val (.ref b860), .val (.int so), .unset, .unset, .unset, .unset] [(.int (Int32.ofNat kj)), (.int (Int32.ofNat kk))])) _
            by_cases hc227_905 : (Int32.ofNat kk) = (Int32.ofNat kj)
            · refine own_back (fun t k => XS.icmpNo Xj895.here hx rfl (hb hby at_227) rfl (Jvm.Free.XT.ii_ne_f hc227_905) k) ?_
              show OwnGo p e below (Tj895.setTop (mkF m 230 #[.val (.int p1), .val (.int p2), .val (.long p3), .second, .val (.long p4), .second, .val (.int p5), .val (.int (Int32.ofNat nn)), .val (.int c0), .val (.int c1), .val (.int (Int32.ofNat kk)), .val (.int (Int32.ofNat mm)), .val (.int d0), .val (.int d1), .val (.int (Int32.ofNat kj)), .val (.long m2), .second, .val (.ref am824), .val (.ref am829), .val (.ref b835), .val (.ref b860), .val (.int so), .unset, .unset, .unset, .unset] [])) _
              refine own_back (fun t k => XS.lloadN Xj895.here hx rfl (hb hby at_230) rfl k) ?_
              show OwnGo p e below (Tj895.setTop (mkF m 231 #[.val (.int p1), .val (.int p2), .val (.long p3), .second, .val (.long p4), .second, .val (.int p5), .val (.int (Int32.ofNat nn)), .val (.int c0), .val (.int c1), .val (.int (Int32.ofNat kk)), .val (.int (Int32.ofNat mm)), .val (.int d0), .val (.int d1), .val (.int (Int32.ofNat kj)), .val (.long m2), .second, .val (.ref am824), .val (.ref am829), .val (.ref b835), .val (.ref b860), .val (.int so), .unset, .unset, .unset, .unset] [(.long p3)])) _
              refine own_back (fun t k => XS.lload Xj895.here hx rfl (hb hby at_231) rfl k) ?_
              show OwnGo p e below (Tj895.setTop (mkF m 233 #[.val (.int p1), .val (.int p2), .val (.long p3), .second, .val (.long p4), .second, .val (.int p5), .val (.int (Int32.ofNat nn)), .val (.int c0), .val (.int c1), .val (.int (Int32.ofNat kk)), .val (.int (Int32.ofNat mm)), .val (.int d0), .val (.int d1), .val (.int (Int32.ofNat kj)), .val (.long m2), .second, .val (.ref am824), .val (.ref am829), .val (.ref b835), .val (.ref b860), .val (.int so), .unset, .unset, .unset, .unset] [(.long m2), (.long p3)])) _
              refine own_back (fun t k => XT.lcmp Xj895.here hx rfl (hb hby at_233) rfl k) ?_
              show OwnGo p e below (Tj895.setTop (mkF m 234 #[.val (.int p1), .val (.int p2), .val (.long p3), .second, .val (.long p4), .second, .val (.int p5), .val (.int (Int32.ofNat nn)), .val (.int c0), .val (.int c1), .val (.int (Int32.ofNat kk)), .val (.int (Int32.ofNat mm)), .val (.int d0), .val (.int d1), .val (.int (Int32.ofNat kj)), .val (.long m2), .second, .val (.ref am824), .val (.ref am829), .val (.ref b835), .val (.ref b860), .val (.int so), .unset, .unset, .unset, .unset] [(.int (XT.cmpL p3 m2))])) _
              by_cases hc234_906 : p3 = m2
              · refine own_back (fun t k => XS.ifNo Xj895.here hx rfl (hb hby at_234) rfl (Jvm.Free.XT.ll_ne_f hc234_906) k) ?_
                show OwnGo p e below (Tj895.setTop (mkF m 237 #[.val (.int p1), .val (.int p2), .val (.long p3), .second, .val (.long p4), .second, .val (.int p5), .val (.int (Int32.ofNat nn)), .val (.int c0), .val (.int c1), .val (.int (Int32.ofNat kk)), .val (.int (Int32.ofNat mm)), .val (.int d0), .val (.int d1), .val (.int (Int32.ofNat kj)), .val (.long m2), .second, .val (.ref am824), .val (.ref am829), .val (.ref b835), .val (.ref b860), .val (.int so), .unset, .unset, .unset, .unset] [])) _
                refine own_back (fun t k => XS.iconst Xj895.here hx rfl (hb hby at_237) k) ?_
                show OwnGo p e below (Tj895.setTop (mkF m 238 #[.val (.int p1), .val (.int p2), .val (.long p3), .second, .val (.long p4), .second, .val (.int p5), .val (.int (Int32.ofNat nn)), .val (.int c0), .val (.int c1), .val (.int (Int32.ofNat kk)), .val (.int (Int32.ofNat mm)), .val (.int d0), .val (.int d1), .val (.int (Int32.ofNat kj)), .val (.long m2), .second, .val (.ref am824), .val (.ref am829), .val (.ref b835), .val (.ref b860), .val (.int so), .unset, .unset, .unset, .unset] [(.int (1 : Int32))])) _
                refine own_back (fun t k => XS.goto Xj895.here hx rfl (pc0 := 238) (pc' := 242) rfl (hb hby at_238) (by decide) (by decide) k) ?_
                show OwnGo p e below (Tj895.setTop (mkF m 242 #[.val (.int p1), .val (.int p2), .val (.long p3), .second, .val (.long p4), .second, .val (.int p5), .val (.int (Int32.ofNat nn)), .val (.int c0), .val (.int c1), .val (.int (Int32.ofNat kk)), .val (.int (Int32.ofNat mm)), .val (.int d0), .val (.int d1), .val (.int (Int32.ofNat kj)), .val (.long m2), .second, .val (.ref am824), .val (.ref am829), .val (.ref b835), .val (.ref b860), .val (.int so), .unset, .unset, .unset, .unset] [(.int (1 : Int32))])) _
                exact tl242_896 _ _ (1 : Int32) ⟨_, _, _, Xj895, ej895, hSj895, hkj895, hZj895, hownj895, CRj895, Oj895, KPj895, Zj895, Nj895⟩ hs895_0 hs895_1 hs895_2 hs895_3 hs895_4 hs895_5 hs895_6 hs895_7 hs895_8 hs895_9 ((if_pos ⟨own_z1 hso hc220_904, by rw [own_eqi (by omega) (by omega) hc227_905], hc234_906⟩).symm)
              · refine own_back (fun t k => XS.ifYes Xj895.here hx rfl (pc0 := 234) (pc' := 241) rfl (hb hby at_234) rfl (Jvm.Free.XT.ll_ne_t hc234_906) (by decide) (by decide) k) ?_
                show OwnGo p e below (Tj895.setTop (mkF m 241 #[.val (.int p1), .val (.int p2), .val (.long p3), .second, .val (.long p4), .second, .val (.int p5), .val (.int (Int32.ofNat nn)), .val (.int c0), .val (.int c1), .val (.int (Int32.ofNat kk)), .val (.int (Int32.ofNat mm)), .val (.int d0), .val (.int d1), .val (.int (Int32.ofNat kj)), .val (.long m2), .second, .val (.ref am824), .val (.ref am829), .val (.ref b835), .val (.ref b860), .val (.int so), .unset, .unset, .unset, .unset] [])) _
                refine own_back (fun t k => XS.iconst Xj895.here hx rfl (hb hby at_241) k) ?_
                show OwnGo p e below (Tj895.setTop (mkF m 242 #[.val (.int p1), .val (.int p2), .val (.long p3), .second, .val (.long p4), .second, .val (.int p5), .val (.int (Int32.ofNat nn)), .val (.int c0), .val (.int c1), .val (.int (Int32.ofNat kk)), .val (.int (Int32.ofNat mm)), .val (.int d0), .val (.int d1), .val (.int (Int32.ofNat kj)), .val (.long m2), .second, .val (.ref am824), .val (.ref am829), .val (.ref b835), .val (.ref b860), .val (.int so), .unset, .unset, .unset, .unset] [(.int (0 : Int32))])) _
                exact tl242_896 _ _ (0 : Int32) ⟨_, _, _, Xj895, ej895, hSj895, hkj895, hZj895, hownj895, CRj895, Oj895, KPj895, Zj895, Nj895⟩ hs895_0 hs895_1 hs895_2 hs895_3 hs895_4 hs895_5 hs895_6 hs895_7 hs895_8 hs895_9 ((if_neg (fun z => hc234_906 z.2.2)).symm)
            · refine own_back (fun t k => XS.icmpYes Xj895.here hx rfl (pc0 := 227) (pc' := 241) rfl (hb hby at_227) rfl (Jvm.Free.XT.ii_ne_t hc227_905) (by decide) (by decide) k) ?_
              show OwnGo p e below (Tj895.setTop (mkF m 241 #[.val (.int p1), .val (.int p2), .val (.long p3), .second, .val (.long p4), .second, .val (.int p5), .val (.int (Int32.ofNat nn)), .val (.int c0), .val (.int c1), .val (.int (Int32.ofNat kk)), .val (.int (Int32.ofNat mm)), .val (.int d0), .val (.int d1), .val (.int (Int32.ofNat kj)), .val (.long m2), .second, .val (.ref am824), .val (.ref am829), .val (.ref b835), .val (.ref b860), .val (.int so), .unset, .unset, .unset, .unset] [])) _
              refine own_back (fun t k => XS.iconst Xj895.here hx rfl (hb hby at_241) k) ?_
              show OwnGo p e below (Tj895.setTop (mkF m 242 #[.val (.int p1), .val (.int p2), .val (.long p3), .second, .val (.long p4), .second, .val (.int p5), .val (.int (Int32.ofNat nn)), .val (.int c0), .val (.int c1), .val (.int (Int32.ofNat kk)), .val (.int (Int32.ofNat mm)), .val (.int d0), .val (.int d1), .val (.int (Int32.ofNat kj)), .val (.long m2), .second, .val (.ref am824), .val (.ref am829), .val (.ref b835), .val (.ref b860), .val (.int so), .unset, .unset, .unset, .unset] [(.int (0 : Int32))])) _
              exact tl242_896 _ _ (0 : Int32) ⟨_, _, _, Xj895, ej895, hSj895, hkj895, hZj895, hownj895, CRj895, Oj895, KPj895, Zj895, Nj895⟩ hs895_0 hs895_1 hs895_2 hs895_3 hs895_4 hs895_5 hs895_6 hs895_7 hs895_8 hs895_9 ((if_neg (fun z => hc227_905 (by rw [own_stI d1_ d2_ d3_ d4_ d5_ d6_ hk3 hkj z.2.1]))).symm)
        refine own_back (fun t k => XS.iload Xr881.here hx rfl (hb hby at_178) rfl k) ?_
        show OwnGo p e below (T881.setTop (mkF m 180 #[.val (.int p1), .val (.int p2), .val (.long p3), .second, .val (.long p4), .second, .val (.int p5), .val (.int (Int32.ofNat nn)), .val (.int c0), .val (.int c1), .val (.int (Int32.ofNat kk)), .val (.int (Int32.ofNat mm)), .val (.int d0), .val (.int d1), .val (.int (Int32.ofNat kj)), .val (.long m2), .second, .val (.ref am824), .val (.ref am829), .val (.ref b835), .val (.ref b860), .unset, .unset, .unset, .unset, .unset] [(.int (Int32.ofNat nn))])) _
        refine own_back (fun t k => XS.iload Xr881.here hx rfl (hb hby at_180) rfl k) ?_
        show OwnGo p e below (T881.setTop (mkF m 182 #[.val (.int p1), .val (.int p2), .val (.long p3), .second, .val (.long p4), .second, .val (.int p5), .val (.int (Int32.ofNat nn)), .val (.int c0), .val (.int c1), .val (.int (Int32.ofNat kk)), .val (.int (Int32.ofNat mm)), .val (.int d0), .val (.int d1), .val (.int (Int32.ofNat kj)), .val (.long m2), .second, .val (.ref am824), .val (.ref am829), .val (.ref b835), .val (.ref b860), .unset, .unset, .unset, .unset, .unset] [(.int (Int32.ofNat mm)), (.int (Int32.ofNat nn))])) _
        by_cases hc182_907 : (Int32.ofNat nn) = (Int32.ofNat mm)
        · refine own_back (fun t k => XS.icmpNo Xr881.here hx rfl (hb hby at_182) rfl (Jvm.Free.XT.ii_ne_f hc182_907) k) ?_
          show OwnGo p e below (T881.setTop (mkF m 185 #[.val (.int p1), .val (.int p2), .val (.long p3), .second, .val (.long p4), .second, .val (.int p5), .val (.int (Int32.ofNat nn)), .val (.int c0), .val (.int c1), .val (.int (Int32.ofNat kk)), .val (.int (Int32.ofNat mm)), .val (.int d0), .val (.int d1), .val (.int (Int32.ofNat kj)), .val (.long m2), .second, .val (.ref am824), .val (.ref am829), .val (.ref b835), .val (.ref b860), .unset, .unset, .unset, .unset, .unset] [])) _
          refine own_back (fun t k => XS.iload Xr881.here hx rfl (hb hby at_185) rfl k) ?_
          show OwnGo p e below (T881.setTop (mkF m 187 #[.val (.int p1), .val (.int p2), .val (.long p3), .second, .val (.long p4), .second, .val (.int p5), .val (.int (Int32.ofNat nn)), .val (.int c0), .val (.int c1), .val (.int (Int32.ofNat kk)), .val (.int (Int32.ofNat mm)), .val (.int d0), .val (.int d1), .val (.int (Int32.ofNat kj)), .val (.long m2), .second, .val (.ref am824), .val (.ref am829), .val (.ref b835), .val (.ref b860), .unset, .unset, .unset, .unset, .unset] [(.int (Int32.ofNat nn))])) _
          refine own_back (fun t k => XS.iconst Xr881.here hx rfl (hb hby at_187) k) ?_
          show OwnGo p e below (T881.setTop (mkF m 188 #[.val (.int p1), .val (.int p2), .val (.long p3), .second, .val (.long p4), .second, .val (.int p5), .val (.int (Int32.ofNat nn)), .val (.int c0), .val (.int c1), .val (.int (Int32.ofNat kk)), .val (.int (Int32.ofNat mm)), .val (.int d0), .val (.int d1), .val (.int (Int32.ofNat kj)), .val (.long m2), .second, .val (.ref am824), .val (.ref am829), .val (.ref b835), .val (.ref b860), .unset, .unset, .unset, .unset, .unset] [(.int (1 : Int32)), (.int (Int32.ofNat nn))])) _
          by_cases hc188_908 : (Int32.ofNat nn) < (1 : Int32)
          · refine own_back (fun t k => XS.icmpYes Xr881.here hx rfl (pc0 := 188) (pc' := 198) rfl (hb hby at_188) rfl (Jvm.Free.XT.ii_lt_t hc188_908) (by decide) (by decide) k) ?_
            show OwnGo p e below (T881.setTop (mkF m 198 #[.val (.int p1), .val (.int p2), .val (.long p3), .second, .val (.long p4), .second, .val (.int p5), .val (.int (Int32.ofNat nn)), .val (.int c0), .val (.int c1), .val (.int (Int32.ofNat kk)), .val (.int (Int32.ofNat mm)), .val (.int d0), .val (.int d1), .val (.int (Int32.ofNat kj)), .val (.long m2), .second, .val (.ref am824), .val (.ref am829), .val (.ref b835), .val (.ref b860), .unset, .unset, .unset, .unset, .unset] [])) _
            refine own_back (fun t k => XS.iload Xr881.here hx rfl (hb hby at_198) rfl k) ?_
            show OwnGo p e below (T881.setTop (mkF m 200 #[.val (.int p1), .val (.int p2), .val (.long p3), .second, .val (.long p4), .second, .val (.int p5), .val (.int (Int32.ofNat nn)), .val (.int c0), .val (.int c1), .val (.int (Int32.ofNat kk)), .val (.int (Int32.ofNat mm)), .val (.int d0), .val (.int d1), .val (.int (Int32.ofNat kj)), .val (.long m2), .second, .val (.ref am824), .val (.ref am829), .val (.ref b835), .val (.ref b860), .unset, .unset, .unset, .unset, .unset] [(.int (Int32.ofNat nn))])) _
            refine own_back (fun t k => XS.iconst Xr881.here hx rfl (hb hby at_200) k) ?_
            show OwnGo p e below (T881.setTop (mkF m 201 #[.val (.int p1), .val (.int p2), .val (.long p3), .second, .val (.long p4), .second, .val (.int p5), .val (.int (Int32.ofNat nn)), .val (.int c0), .val (.int c1), .val (.int (Int32.ofNat kk)), .val (.int (Int32.ofNat mm)), .val (.int d0), .val (.int d1), .val (.int (Int32.ofNat kj)), .val (.long m2), .second, .val (.ref am824), .val (.ref am829), .val (.ref b835), .val (.ref b860), .unset, .unset, .unset, .unset, .unset] [(.int (2 : Int32)), (.int (Int32.ofNat nn))])) _
            by_cases hc201_909 : (Int32.ofNat nn) < (2 : Int32)
            · refine own_back (fun t k => XS.icmpYes Xr881.here hx rfl (pc0 := 201) (pc' := 211) rfl (hb hby at_201) rfl (Jvm.Free.XT.ii_lt_t hc201_909) (by decide) (by decide) k) ?_
              show OwnGo p e below (T881.setTop (mkF m 211 #[.val (.int p1), .val (.int p2), .val (.long p3), .second, .val (.long p4), .second, .val (.int p5), .val (.int (Int32.ofNat nn)), .val (.int c0), .val (.int c1), .val (.int (Int32.ofNat kk)), .val (.int (Int32.ofNat mm)), .val (.int d0), .val (.int d1), .val (.int (Int32.ofNat kj)), .val (.long m2), .second, .val (.ref am824), .val (.ref am829), .val (.ref b835), .val (.ref b860), .unset, .unset, .unset, .unset, .unset] [])) _
              refine own_back (fun t k => XS.iconst Xr881.here hx rfl (hb hby at_211) k) ?_
              show OwnGo p e below (T881.setTop (mkF m 212 #[.val (.int p1), .val (.int p2), .val (.long p3), .second, .val (.long p4), .second, .val (.int p5), .val (.int (Int32.ofNat nn)), .val (.int c0), .val (.int c1), .val (.int (Int32.ofNat kk)), .val (.int (Int32.ofNat mm)), .val (.int d0), .val (.int d1), .val (.int (Int32.ofNat kj)), .val (.long m2), .second, .val (.ref am824), .val (.ref am829), .val (.ref b835), .val (.ref b860), .unset, .unset, .unset, .unset, .unset] [(.int (1 : Int32))])) _
              refine own_back (fun t k => XS.goto Xr881.here hx rfl (pc0 := 212) (pc' := 216) rfl (hb hby at_212) (by decide) (by decide) k) ?_
              show OwnGo p e below (T881.setTop (mkF m 216 #[.val (.int p1), .val (.int p2), .val (.long p3), .second, .val (.long p4), .second, .val (.int p5), .val (.int (Int32.ofNat nn)), .val (.int c0), .val (.int c1), .val (.int (Int32.ofNat kk)), .val (.int (Int32.ofNat mm)), .val (.int d0), .val (.int d1), .val (.int (Int32.ofNat kj)), .val (.long m2), .second, .val (.ref am824), .val (.ref am829), .val (.ref b835), .val (.ref b860), .unset, .unset, .unset, .unset, .unset] [(.int (1 : Int32))])) _
              exact tl216_895 _ _ (1 : Int32) ⟨_, _, _, Xr881, rfl, hSr881, (Nat.le_refl _), hZr881, hownr881, CR885, O882, KP883, Zs884, N881⟩ f886 f887 f888 f890 f891 f892 EX881 FO881 FS881 FC881 ((if_pos ((own_Leq hn hmm r0 r1 q0 q1).mpr ⟨own_eqi (by omega) (by omega) hc182_907, Or.inl (own_ltn (n := 1) (by omega) (by omega) hc188_908), Or.inl (own_ltn (n := 2) (by omega) (by omega) hc201_909)⟩)).symm)
            · refine own_back (fun t k => XS.icmpNo Xr881.here hx rfl (hb hby at_201) rfl (Jvm.Free.XT.ii_lt_f hc201_909) k) ?_
              show OwnGo p e below (T881.setTop (mkF m 204 #[.val (.int p1), .val (.int p2), .val (.long p3), .second, .val (.long p4), .second, .val (.int p5), .val (.int (Int32.ofNat nn)), .val (.int c0), .val (.int c1), .val (.int (Int32.ofNat kk)), .val (.int (Int32.ofNat mm)), .val (.int d0), .val (.int d1), .val (.int (Int32.ofNat kj)), .val (.long m2), .second, .val (.ref am824), .val (.ref am829), .val (.ref b835), .val (.ref b860), .unset, .unset, .unset, .unset, .unset] [])) _
              refine own_back (fun t k => XS.iload Xr881.here hx rfl (hb hby at_204) rfl k) ?_
              show OwnGo p e below (T881.setTop (mkF m 206 #[.val (.int p1), .val (.int p2), .val (.long p3), .second, .val (.long p4), .second, .val (.int p5), .val (.int (Int32.ofNat nn)), .val (.int c0), .val (.int c1), .val (.int (Int32.ofNat kk)), .val (.int (Int32.ofNat mm)), .val (.int d0), .val (.int d1), .val (.int (Int32.ofNat kj)), .val (.long m2), .second, .val (.ref am824), .val (.ref am829), .val (.ref b835), .val (.ref b860), .unset, .unset, .unset, .unset, .unset] [(.int c1)])) _
              refine own_back (fun t k => XS.iload Xr881.here hx rfl (hb hby at_206) rfl k) ?_
              show OwnGo p e below (T881.setTop (mkF m 208 #[.val (.int p1), .val (.int p2), .val (.long p3), .second, .val (.long p4), .second, .val (.int p5), .val (.int (Int32.ofNat nn)), .val (.int c0), .val (.int c1), .val (.int (Int32.ofNat kk)), .val (.int (Int32.ofNat mm)), .val (.int d0), .val (.int d1), .val (.int (Int32.ofNat kj)), .val (.long m2), .second, .val (.ref am824), .val (.ref am829), .val (.ref b835), .val (.ref b860), .unset, .unset, .unset, .unset, .unset] [(.int d1), (.int c1)])) _
              by_cases hc208_910 : c1 = d1
              · refine own_back (fun t k => XS.icmpNo Xr881.here hx rfl (hb hby at_208) rfl (Jvm.Free.XT.ii_ne_f hc208_910) k) ?_
                show OwnGo p e below (T881.setTop (mkF m 211 #[.val (.int p1), .val (.int p2), .val (.long p3), .second, .val (.long p4), .second, .val (.int p5), .val (.int (Int32.ofNat nn)), .val (.int c0), .val (.int c1), .val (.int (Int32.ofNat kk)), .val (.int (Int32.ofNat mm)), .val (.int d0), .val (.int d1), .val (.int (Int32.ofNat kj)), .val (.long m2), .second, .val (.ref am824), .val (.ref am829), .val (.ref b835), .val (.ref b860), .unset, .unset, .unset, .unset, .unset] [])) _
                refine own_back (fun t k => XS.iconst Xr881.here hx rfl (hb hby at_211) k) ?_
                show OwnGo p e below (T881.setTop (mkF m 212 #[.val (.int p1), .val (.int p2), .val (.long p3), .second, .val (.long p4), .second, .val (.int p5), .val (.int (Int32.ofNat nn)), .val (.int c0), .val (.int c1), .val (.int (Int32.ofNat kk)), .val (.int (Int32.ofNat mm)), .val (.int d0), .val (.int d1), .val (.int (Int32.ofNat kj)), .val (.long m2), .second, .val (.ref am824), .val (.ref am829), .val (.ref b835), .val (.ref b860), .unset, .unset, .unset, .unset, .unset] [(.int (1 : Int32))])) _
                refine own_back (fun t k => XS.goto Xr881.here hx rfl (pc0 := 212) (pc' := 216) rfl (hb hby at_212) (by decide) (by decide) k) ?_
                show OwnGo p e below (T881.setTop (mkF m 216 #[.val (.int p1), .val (.int p2), .val (.long p3), .second, .val (.long p4), .second, .val (.int p5), .val (.int (Int32.ofNat nn)), .val (.int c0), .val (.int c1), .val (.int (Int32.ofNat kk)), .val (.int (Int32.ofNat mm)), .val (.int d0), .val (.int d1), .val (.int (Int32.ofNat kj)), .val (.long m2), .second, .val (.ref am824), .val (.ref am829), .val (.ref b835), .val (.ref b860), .unset, .unset, .unset, .unset, .unset] [(.int (1 : Int32))])) _
                exact tl216_895 _ _ (1 : Int32) ⟨_, _, _, Xr881, rfl, hSr881, (Nat.le_refl _), hZr881, hownr881, CR885, O882, KP883, Zs884, N881⟩ f886 f887 f888 f890 f891 f892 EX881 FO881 FS881 FC881 ((if_pos ((own_Leq hn hmm r0 r1 q0 q1).mpr ⟨own_eqi (by omega) (by omega) hc182_907, Or.inl (own_ltn (n := 1) (by omega) (by omega) hc188_908), Or.inr hc208_910⟩)).symm)
              · refine own_back (fun t k => XS.icmpYes Xr881.here hx rfl (pc0 := 208) (pc' := 215) rfl (hb hby at_208) rfl (Jvm.Free.XT.ii_ne_t hc208_910) (by decide) (by decide) k) ?_
                show OwnGo p e below (T881.setTop (mkF m 215 #[.val (.int p1), .val (.int p2), .val (.long p3), .second, .val (.long p4), .second, .val (.int p5), .val (.int (Int32.ofNat nn)), .val (.int c0), .val (.int c1), .val (.int (Int32.ofNat kk)), .val (.int (Int32.ofNat mm)), .val (.int d0), .val (.int d1), .val (.int (Int32.ofNat kj)), .val (.long m2), .second, .val (.ref am824), .val (.ref am829), .val (.ref b835), .val (.ref b860), .unset, .unset, .unset, .unset, .unset] [])) _
                refine own_back (fun t k => XS.iconst Xr881.here hx rfl (hb hby at_215) k) ?_
                show OwnGo p e below (T881.setTop (mkF m 216 #[.val (.int p1), .val (.int p2), .val (.long p3), .second, .val (.long p4), .second, .val (.int p5), .val (.int (Int32.ofNat nn)), .val (.int c0), .val (.int c1), .val (.int (Int32.ofNat kk)), .val (.int (Int32.ofNat mm)), .val (.int d0), .val (.int d1), .val (.int (Int32.ofNat kj)), .val (.long m2), .second, .val (.ref am824), .val (.ref am829), .val (.ref b835), .val (.ref b860), .unset, .unset, .unset, .unset, .unset] [(.int (0 : Int32))])) _
                exact tl216_895 _ _ (0 : Int32) ⟨_, _, _, Xr881, rfl, hSr881, (Nat.le_refl _), hZr881, hownr881, CR885, O882, KP883, Zs884, N881⟩ f886 f887 f888 f890 f891 f892 EX881 FO881 FS881 FC881 ((if_neg (fun z => ((own_Leq hn hmm r0 r1 q0 q1).mp z).2.2.elim (fun y => hc201_909 (own_lti (n := 2) (by omega) y)) hc208_910)).symm)
          · refine own_back (fun t k => XS.icmpNo Xr881.here hx rfl (hb hby at_188) rfl (Jvm.Free.XT.ii_lt_f hc188_908) k) ?_
            show OwnGo p e below (T881.setTop (mkF m 191 #[.val (.int p1), .val (.int p2), .val (.long p3), .second, .val (.long p4), .second, .val (.int p5), .val (.int (Int32.ofNat nn)), .val (.int c0), .val (.int c1), .val (.int (Int32.ofNat kk)), .val (.int (Int32.ofNat mm)), .val (.int d0), .val (.int d1), .val (.int (Int32.ofNat kj)), .val (.long m2), .second, .val (.ref am824), .val (.ref am829), .val (.ref b835), .val (.ref b860), .unset, .unset, .unset, .unset, .unset] [])) _
            refine own_back (fun t k => XS.iload Xr881.here hx rfl (hb hby at_191) rfl k) ?_
            show OwnGo p e below (T881.setTop (mkF m 193 #[.val (.int p1), .val (.int p2), .val (.long p3), .second, .val (.long p4), .second, .val (.int p5), .val (.int (Int32.ofNat nn)), .val (.int c0), .val (.int c1), .val (.int (Int32.ofNat kk)), .val (.int (Int32.ofNat mm)), .val (.int d0), .val (.int d1), .val (.int (Int32.ofNat kj)), .val (.long m2), .second, .val (.ref am824), .val (.ref am829), .val (.ref b835), .val (.ref b860), .unset, .unset, .unset, .unset, .unset] [(.int c0)])) _
            refine own_back (fun t k => XS.iload Xr881.here hx rfl (hb hby at_193) rfl k) ?_
            show OwnGo p e below (T881.setTop (mkF m 195 #[.val (.int p1), .val (.int p2), .val (.long p3), .second, .val (.long p4), .second, .val (.int p5), .val (.int (Int32.ofNat nn)), .val (.int c0), .val (.int c1), .val (.int (Int32.ofNat kk)), .val (.int (Int32.ofNat mm)), .val (.int d0), .val (.int d1), .val (.int (Int32.ofNat kj)), .val (.long m2), .second, .val (.ref am824), .val (.ref am829), .val (.ref b835), .val (.ref b860), .unset, .unset, .unset, .unset, .unset] [(.int d0), (.int c0)])) _
            by_cases hc195_911 : c0 = d0
            · refine own_back (fun t k => XS.icmpNo Xr881.here hx rfl (hb hby at_195) rfl (Jvm.Free.XT.ii_ne_f hc195_911) k) ?_
              show OwnGo p e below (T881.setTop (mkF m 198 #[.val (.int p1), .val (.int p2), .val (.long p3), .second, .val (.long p4), .second, .val (.int p5), .val (.int (Int32.ofNat nn)), .val (.int c0), .val (.int c1), .val (.int (Int32.ofNat kk)), .val (.int (Int32.ofNat mm)), .val (.int d0), .val (.int d1), .val (.int (Int32.ofNat kj)), .val (.long m2), .second, .val (.ref am824), .val (.ref am829), .val (.ref b835), .val (.ref b860), .unset, .unset, .unset, .unset, .unset] [])) _
              refine own_back (fun t k => XS.iload Xr881.here hx rfl (hb hby at_198) rfl k) ?_
              show OwnGo p e below (T881.setTop (mkF m 200 #[.val (.int p1), .val (.int p2), .val (.long p3), .second, .val (.long p4), .second, .val (.int p5), .val (.int (Int32.ofNat nn)), .val (.int c0), .val (.int c1), .val (.int (Int32.ofNat kk)), .val (.int (Int32.ofNat mm)), .val (.int d0), .val (.int d1), .val (.int (Int32.ofNat kj)), .val (.long m2), .second, .val (.ref am824), .val (.ref am829), .val (.ref b835), .val (.ref b860), .unset, .unset, .unset, .unset, .unset] [(.int (Int32.ofNat nn))])) _
              refine own_back (fun t k => XS.iconst Xr881.here hx rfl (hb hby at_200) k) ?_
              show OwnGo p e below (T881.setTop (mkF m 201 #[.val (.int p1), .val (.int p2), .val (.long p3), .second, .val (.long p4), .second, .val (.int p5), .val (.int (Int32.ofNat nn)), .val (.int c0), .val (.int c1), .val (.int (Int32.ofNat kk)), .val (.int (Int32.ofNat mm)), .val (.int d0), .val (.int d1), .val (.int (Int32.ofNat kj)), .val (.long m2), .second, .val (.ref am824), .val (.ref am829), .val (.ref b835), .val (.ref b860), .unset, .unset, .unset, .unset, .unset] [(.int (2 : Int32)), (.int (Int32.ofNat nn))])) _
              by_cases hc201_912 : (Int32.ofNat nn) < (2 : Int32)
              · refine own_back (fun t k => XS.icmpYes Xr881.here hx rfl (pc0 := 201) (pc' := 211) rfl (hb hby at_201) rfl (Jvm.Free.XT.ii_lt_t hc201_912) (by decide) (by decide) k) ?_
                show OwnGo p e below (T881.setTop (mkF m 211 #[.val (.int p1), .val (.int p2), .val (.long p3), .second, .val (.long p4), .second, .val (.int p5), .val (.int (Int32.ofNat nn)), .val (.int c0), .val (.int c1), .val (.int (Int32.ofNat kk)), .val (.int (Int32.ofNat mm)), .val (.int d0), .val (.int d1), .val (.int (Int32.ofNat kj)), .val (.long m2), .second, .val (.ref am824), .val (.ref am829), .val (.ref b835), .val (.ref b860), .unset, .unset, .unset, .unset, .unset] [])) _
                refine own_back (fun t k => XS.iconst Xr881.here hx rfl (hb hby at_211) k) ?_
                show OwnGo p e below (T881.setTop (mkF m 212 #[.val (.int p1), .val (.int p2), .val (.long p3), .second, .val (.long p4), .second, .val (.int p5), .val (.int (Int32.ofNat nn)), .val (.int c0), .val (.int c1), .val (.int (Int32.ofNat kk)), .val (.int (Int32.ofNat mm)), .val (.int d0), .val (.int d1), .val (.int (Int32.ofNat kj)), .val (.long m2), .second, .val (.ref am824), .val (.ref am829), .val (.ref b835), .val (.ref b860), .unset, .unset, .unset, .unset, .unset] [(.int (1 : Int32))])) _
                refine own_back (fun t k => XS.goto Xr881.here hx rfl (pc0 := 212) (pc' := 216) rfl (hb hby at_212) (by decide) (by decide) k) ?_
                show OwnGo p e below (T881.setTop (mkF m 216 #[.val (.int p1), .val (.int p2), .val (.long p3), .second, .val (.long p4), .second, .val (.int p5), .val (.int (Int32.ofNat nn)), .val (.int c0), .val (.int c1), .val (.int (Int32.ofNat kk)), .val (.int (Int32.ofNat mm)), .val (.int d0), .val (.int d1), .val (.int (Int32.ofNat kj)), .val (.long m2), .second, .val (.ref am824), .val (.ref am829), .val (.ref b835), .val (.ref b860), .unset, .unset, .unset, .unset, .unset] [(.int (1 : Int32))])) _
                exact tl216_895 _ _ (1 : Int32) ⟨_, _, _, Xr881, rfl, hSr881, (Nat.le_refl _), hZr881, hownr881, CR885, O882, KP883, Zs884, N881⟩ f886 f887 f888 f890 f891 f892 EX881 FO881 FS881 FC881 ((if_pos ((own_Leq hn hmm r0 r1 q0 q1).mpr ⟨own_eqi (by omega) (by omega) hc182_907, Or.inr hc195_911, Or.inl (own_ltn (n := 2) (by omega) (by omega) hc201_912)⟩)).symm)
              · refine own_back (fun t k => XS.icmpNo Xr881.here hx rfl (hb hby at_201) rfl (Jvm.Free.XT.ii_lt_f hc201_912) k) ?_
                show OwnGo p e below (T881.setTop (mkF m 204 #[.val (.int p1), .val (.int p2), .val (.long p3), .second, .val (.long p4), .second, .val (.int p5), .val (.int (Int32.ofNat nn)), .val (.int c0), .val (.int c1), .val (.int (Int32.ofNat kk)), .val (.int (Int32.ofNat mm)), .val (.int d0), .val (.int d1), .val (.int (Int32.ofNat kj)), .val (.long m2), .second, .val (.ref am824), .val (.ref am829), .val (.ref b835), .val (.ref b860), .unset, .unset, .unset, .unset, .unset] [])) _
                refine own_back (fun t k => XS.iload Xr881.here hx rfl (hb hby at_204) rfl k) ?_
                show OwnGo p e below (T881.setTop (mkF m 206 #[.val (.int p1), .val (.int p2), .val (.long p3), .second, .val (.long p4), .second, .val (.int p5), .val (.int (Int32.ofNat nn)), .val (.int c0), .val (.int c1), .val (.int (Int32.ofNat kk)), .val (.int (Int32.ofNat mm)), .val (.int d0), .val (.int d1), .val (.int (Int32.ofNat kj)), .val (.long m2), .second, .val (.ref am824), .val (.ref am829), .val (.ref b835), .val (.ref b860), .unset, .unset, .unset, .unset, .unset] [(.int c1)])) _
                refine own_back (fun t k => XS.iload Xr881.here hx rfl (hb hby at_206) rfl k) ?_
                show OwnGo p e below (T881.setTop (mkF m 208 #[.val (.int p1), .val (.int p2), .val (.long p3), .second, .val (.long p4), .second, .val (.int p5), .val (.int (Int32.ofNat nn)), .val (.int c0), .val (.int c1), .val (.int (Int32.ofNat kk)), .val (.int (Int32.ofNat mm)), .val (.int d0), .val (.int d1), .val (.int (Int32.ofNat kj)), .val (.long m2), .second, .val (.ref am824), .val (.ref am829), .val (.ref b835), .val (.ref b860), .unset, .unset, .unset, .unset, .unset] [(.int d1), (.int c1)])) _
                by_cases hc208_913 : c1 = d1
                · refine own_back (fun t k => XS.icmpNo Xr881.here hx rfl (hb hby at_208) rfl (Jvm.Free.XT.ii_ne_f hc208_913) k) ?_
                  show OwnGo p e below (T881.setTop (mkF m 211 #[.val (.int p1), .val (.int p2), .val (.long p3), .second, .val (.long p4), .second, .val (.int p5), .val (.int (Int32.ofNat nn)), .val (.int c0), .val (.int c1), .val (.int (Int32.ofNat kk)), .val (.int (Int32.ofNat mm)), .val (.int d0), .val (.int d1), .val (.int (Int32.ofNat kj)), .val (.long m2), .second, .val (.ref am824), .val (.ref am829), .val (.ref b835), .val (.ref b860), .unset, .unset, .unset, .unset, .unset] [])) _
                  refine own_back (fun t k => XS.iconst Xr881.here hx rfl (hb hby at_211) k) ?_
                  show OwnGo p e below (T881.setTop (mkF m 212 #[.val (.int p1), .val (.int p2), .val (.long p3), .second, .val (.long p4), .second, .val (.int p5), .val (.int (Int32.ofNat nn)), .val (.int c0), .val (.int c1), .val (.int (Int32.ofNat kk)), .val (.int (Int32.ofNat mm)), .val (.int d0), .val (.int d1), .val (.int (Int32.ofNat kj)), .val (.long m2), .second, .val (.ref am824), .val (.ref am829), .val (.ref b835), .val (.ref b860), .unset, .unset, .unset, .unset, .unset] [(.int (1 : Int32))])) _
                  refine own_back (fun t k => XS.goto Xr881.here hx rfl (pc0 := 212) (pc' := 216) rfl (hb hby at_212) (by decide) (by decide) k) ?_
                  show OwnGo p e below (T881.setTop (mkF m 216 #[.val (.int p1), .val (.int p2), .val (.long p3), .second, .val (.long p4), .second, .val (.int p5), .val (.int (Int32.ofNat nn)), .val (.int c0), .val (.int c1), .val (.int (Int32.ofNat kk)), .val (.int (Int32.ofNat mm)), .val (.int d0), .val (.int d1), .val (.int (Int32.ofNat kj)), .val (.long m2), .second, .val (.ref am824), .val (.ref am829), .val (.ref b835), .val (.ref b860), .unset, .unset, .unset, .unset, .unset] [(.int (1 : Int32))])) _
                  exact tl216_895 _ _ (1 : Int32) ⟨_, _, _, Xr881, rfl, hSr881, (Nat.le_refl _), hZr881, hownr881, CR885, O882, KP883, Zs884, N881⟩ f886 f887 f888 f890 f891 f892 EX881 FO881 FS881 FC881 ((if_pos ((own_Leq hn hmm r0 r1 q0 q1).mpr ⟨own_eqi (by omega) (by omega) hc182_907, Or.inr hc195_911, Or.inr hc208_913⟩)).symm)
                · refine own_back (fun t k => XS.icmpYes Xr881.here hx rfl (pc0 := 208) (pc' := 215) rfl (hb hby at_208) rfl (Jvm.Free.XT.ii_ne_t hc208_913) (by decide) (by decide) k) ?_
                  show OwnGo p e below (T881.setTop (mkF m 215 #[.val (.int p1), .val (.int p2), .val (.long p3), .second, .val (.long p4), .second, .val (.int p5), .val (.int (Int32.ofNat nn)), .val (.int c0), .val (.int c1), .val (.int (Int32.ofNat kk)), .val (.int (Int32.ofNat mm)), .val (.int d0), .val (.int d1), .val (.int (Int32.ofNat kj)), .val (.long m2), .second, .val (.ref am824), .val (.ref am829), .val (.ref b835), .val (.ref b860), .unset, .unset, .unset, .unset, .unset] [])) _
                  refine own_back (fun t k => XS.iconst Xr881.here hx rfl (hb hby at_215) k) ?_
                  show OwnGo p e below (T881.setTop (mkF m 216 #[.val (.int p1), .val (.int p2), .val (.long p3), .second, .val (.long p4), .second, .val (.int p5), .val (.int (Int32.ofNat nn)), .val (.int c0), .val (.int c1), .val (.int (Int32.ofNat kk)), .val (.int (Int32.ofNat mm)), .val (.int d0), .val (.int d1), .val (.int (Int32.ofNat kj)), .val (.long m2), .second, .val (.ref am824), .val (.ref am829), .val (.ref b835), .val (.ref b860), .unset, .unset, .unset, .unset, .unset] [(.int (0 : Int32))])) _
                  exact tl216_895 _ _ (0 : Int32) ⟨_, _, _, Xr881, rfl, hSr881, (Nat.le_refl _), hZr881, hownr881, CR885, O882, KP883, Zs884, N881⟩ f886 f887 f888 f890 f891 f892 EX881 FO881 FS881 FC881 ((if_neg (fun z => ((own_Leq hn hmm r0 r1 q0 q1).mp z).2.2.elim (fun y => hc201_912 (own_lti (n := 2) (by omega) y)) hc208_913)).symm)
            · refine own_back (fun t k => XS.icmpYes Xr881.here hx rfl (pc0 := 195) (pc' := 215) rfl (hb hby at_195) rfl (Jvm.Free.XT.ii_ne_t hc195_911) (by decide) (by decide) k) ?_
              show OwnGo p e below (T881.setTop (mkF m 215 #[.val (.int p1), .val (.int p2), .val (.long p3), .second, .val (.long p4), .second, .val (.int p5), .val (.int (Int32.ofNat nn)), .val (.int c0), .val (.int c1), .val (.int (Int32.ofNat kk)), .val (.int (Int32.ofNat mm)), .val (.int d0), .val (.int d1), .val (.int (Int32.ofNat kj)), .val (.long m2), .second, .val (.ref am824), .val (.ref am829), .val (.ref b835), .val (.ref b860), .unset, .unset, .unset, .unset, .unset] [])) _
              refine own_back (fun t k => XS.iconst Xr881.here hx rfl (hb hby at_215) k) ?_
              show OwnGo p e below (T881.setTop (mkF m 216 #[.val (.int p1), .val (.int p2), .val (.long p3), .second, .val (.long p4), .second, .val (.int p5), .val (.int (Int32.ofNat nn)), .val (.int c0), .val (.int c1), .val (.int (Int32.ofNat kk)), .val (.int (Int32.ofNat mm)), .val (.int d0), .val (.int d1), .val (.int (Int32.ofNat kj)), .val (.long m2), .second, .val (.ref am824), .val (.ref am829), .val (.ref b835), .val (.ref b860), .unset, .unset, .unset, .unset, .unset] [(.int (0 : Int32))])) _
              exact tl216_895 _ _ (0 : Int32) ⟨_, _, _, Xr881, rfl, hSr881, (Nat.le_refl _), hZr881, hownr881, CR885, O882, KP883, Zs884, N881⟩ f886 f887 f888 f890 f891 f892 EX881 FO881 FS881 FC881 ((if_neg (fun z => ((own_Leq hn hmm r0 r1 q0 q1).mp z).2.1.elim (fun y => hc188_908 (own_lti (n := 1) (by omega) y)) hc195_911)).symm)
        · refine own_back (fun t k => XS.icmpYes Xr881.here hx rfl (pc0 := 182) (pc' := 215) rfl (hb hby at_182) rfl (Jvm.Free.XT.ii_ne_t hc182_907) (by decide) (by decide) k) ?_
          show OwnGo p e below (T881.setTop (mkF m 215 #[.val (.int p1), .val (.int p2), .val (.long p3), .second, .val (.long p4), .second, .val (.int p5), .val (.int (Int32.ofNat nn)), .val (.int c0), .val (.int c1), .val (.int (Int32.ofNat kk)), .val (.int (Int32.ofNat mm)), .val (.int d0), .val (.int d1), .val (.int (Int32.ofNat kj)), .val (.long m2), .second, .val (.ref am824), .val (.ref am829), .val (.ref b835), .val (.ref b860), .unset, .unset, .unset, .unset, .unset] [])) _
          refine own_back (fun t k => XS.iconst Xr881.here hx rfl (hb hby at_215) k) ?_
          show OwnGo p e below (T881.setTop (mkF m 216 #[.val (.int p1), .val (.int p2), .val (.long p3), .second, .val (.long p4), .second, .val (.int p5), .val (.int (Int32.ofNat nn)), .val (.int c0), .val (.int c1), .val (.int (Int32.ofNat kk)), .val (.int (Int32.ofNat mm)), .val (.int d0), .val (.int d1), .val (.int (Int32.ofNat kj)), .val (.long m2), .second, .val (.ref am824), .val (.ref am829), .val (.ref b835), .val (.ref b860), .unset, .unset, .unset, .unset, .unset] [(.int (0 : Int32))])) _
          exact tl216_895 _ _ (0 : Int32) ⟨_, _, _, Xr881, rfl, hSr881, (Nat.le_refl _), hZr881, hownr881, CR885, O882, KP883, Zs884, N881⟩ f886 f887 f888 f890 f891 f892 EX881 FO881 FS881 FC881 ((if_neg (fun z => hc182_907 (by rw [((own_Leq hn hmm r0 r1 q0 q1).mp z).1]))).symm)
      refine own_back (fun t k => XS.iload Xj822.here hx rfl (hb hby at_106) rfl k) ?_
      show OwnGo p e below (Tj822.setTop (mkF m 108 #[.val (.int p1), .val (.int p2), .val (.long p3), .second, .val (.long p4), .second, .val (.int p5), .val (.int (Int32.ofNat nn)), .val (.int c0), .val (.int c1), .val (.int (Int32.ofNat kk)), .val (.int (Int32.ofNat mm)), .val (.int d0), .val (.int d1), .val (.int (Int32.ofNat kj)), .unset, .unset, .unset, .unset, .unset, .unset, .unset, .unset, .unset, .unset, .unset] [(.int p5)])) _
      refine own_back (fun t k => XS.iconst Xj822.here hx rfl (hb hby at_108) k) ?_
      show OwnGo p e below (Tj822.setTop (mkF m 109 #[.val (.int p1), .val (.int p2), .val (.long p3), .second, .val (.long p4), .second, .val (.int p5), .val (.int (Int32.ofNat nn)), .val (.int c0), .val (.int c1), .val (.int (Int32.ofNat kk)), .val (.int (Int32.ofNat mm)), .val (.int d0), .val (.int d1), .val (.int (Int32.ofNat kj)), .unset, .unset, .unset, .unset, .unset, .unset, .unset, .unset, .unset, .unset, .unset] [(.int (4 : Int32)), (.int p5)])) _
      refine own_back (fun t k => XS.iand Xj822.here hx rfl (hb hby at_109) rfl k) ?_
      show OwnGo p e below (Tj822.setTop (mkF m 110 #[.val (.int p1), .val (.int p2), .val (.long p3), .second, .val (.long p4), .second, .val (.int p5), .val (.int (Int32.ofNat nn)), .val (.int c0), .val (.int c1), .val (.int (Int32.ofNat kk)), .val (.int (Int32.ofNat mm)), .val (.int d0), .val (.int d1), .val (.int (Int32.ofNat kj)), .unset, .unset, .unset, .unset, .unset, .unset, .unset, .unset, .unset, .unset, .unset] [(.int (p5 &&& (4 : Int32)))])) _
      by_cases hc110_914 : (p5 &&& (4 : Int32)) = (0 : Int32)
      · refine own_back (fun t k => XS.ifYes Xj822.here hx rfl (pc0 := 110) (pc' := 117) rfl (hb hby at_110) rfl (Jvm.Free.XT.i0_eq_t hc110_914) (by decide) (by decide) k) ?_
        show OwnGo p e below (Tj822.setTop (mkF m 117 #[.val (.int p1), .val (.int p2), .val (.long p3), .second, .val (.long p4), .second, .val (.int p5), .val (.int (Int32.ofNat nn)), .val (.int c0), .val (.int c1), .val (.int (Int32.ofNat kk)), .val (.int (Int32.ofNat mm)), .val (.int d0), .val (.int d1), .val (.int (Int32.ofNat kj)), .unset, .unset, .unset, .unset, .unset, .unset, .unset, .unset, .unset, .unset, .unset] [])) _
        refine own_back (fun t k => XS.lload Xj822.here hx rfl (hb hby at_117) rfl k) ?_
        show OwnGo p e below (Tj822.setTop (mkF m 119 #[.val (.int p1), .val (.int p2), .val (.long p3), .second, .val (.long p4), .second, .val (.int p5), .val (.int (Int32.ofNat nn)), .val (.int c0), .val (.int c1), .val (.int (Int32.ofNat kk)), .val (.int (Int32.ofNat mm)), .val (.int d0), .val (.int d1), .val (.int (Int32.ofNat kj)), .unset, .unset, .unset, .unset, .unset, .unset, .unset, .unset, .unset, .unset, .unset] [(.long p4)])) _
        exact tl119_823 _ _ p4 ⟨_, _, _, Xj822, ej822, hSj822, hkj822, hZj822, hownj822, CRj822, Oj822, KPj822, Zj822, Nj822⟩
      · refine own_back (fun t k => XS.ifNo Xj822.here hx rfl (hb hby at_110) rfl (Jvm.Free.XT.i0_eq_f hc110_914) k) ?_
        show OwnGo p e below (Tj822.setTop (mkF m 113 #[.val (.int p1), .val (.int p2), .val (.long p3), .second, .val (.long p4), .second, .val (.int p5), .val (.int (Int32.ofNat nn)), .val (.int c0), .val (.int c1), .val (.int (Int32.ofNat kk)), .val (.int (Int32.ofNat mm)), .val (.int d0), .val (.int d1), .val (.int (Int32.ofNat kj)), .unset, .unset, .unset, .unset, .unset, .unset, .unset, .unset, .unset, .unset, .unset] [])) _
        refine own_back (fun t k => XS.lloadN Xj822.here hx rfl (hb hby at_113) rfl k) ?_
        show OwnGo p e below (Tj822.setTop (mkF m 114 #[.val (.int p1), .val (.int p2), .val (.long p3), .second, .val (.long p4), .second, .val (.int p5), .val (.int (Int32.ofNat nn)), .val (.int c0), .val (.int c1), .val (.int (Int32.ofNat kk)), .val (.int (Int32.ofNat mm)), .val (.int d0), .val (.int d1), .val (.int (Int32.ofNat kj)), .unset, .unset, .unset, .unset, .unset, .unset, .unset, .unset, .unset, .unset, .unset] [(.long p3)])) _
        refine own_back (fun t k => XS.goto Xj822.here hx rfl (pc0 := 114) (pc' := 119) rfl (hb hby at_114) (by decide) (by decide) k) ?_
        show OwnGo p e below (Tj822.setTop (mkF m 119 #[.val (.int p1), .val (.int p2), .val (.long p3), .second, .val (.long p4), .second, .val (.int p5), .val (.int (Int32.ofNat nn)), .val (.int c0), .val (.int c1), .val (.int (Int32.ofNat kk)), .val (.int (Int32.ofNat mm)), .val (.int d0), .val (.int d1), .val (.int (Int32.ofNat kj)), .unset, .unset, .unset, .unset, .unset, .unset, .unset, .unset, .unset, .unset, .unset] [(.long p3)])) _
        exact tl119_823 _ _ p3 ⟨_, _, _, Xj822, ej822, hSj822, hkj822, hZj822, hownj822, CRj822, Oj822, KPj822, Zj822, Nj822⟩
    refine own_back (fun t k => XS.iload Xj821.here hx rfl (hb hby at_86) rfl k) ?_
    show OwnGo p e below (Tj821.setTop (mkF m 88 #[.val (.int p1), .val (.int p2), .val (.long p3), .second, .val (.long p4), .second, .val (.int p5), .val (.int (Int32.ofNat nn)), .val (.int c0), .val (.int c1), .val (.int (Int32.ofNat kk)), .val (.int (Int32.ofNat mm)), .val (.int d0), .val (.int d1), .unset, .unset, .unset, .unset, .unset, .unset, .unset, .unset, .unset, .unset, .unset, .unset] [(.int p5)])) _
    refine own_back (fun t k => XS.iconst Xj821.here hx rfl (hb hby at_88) k) ?_
    show OwnGo p e below (Tj821.setTop (mkF m 89 #[.val (.int p1), .val (.int p2), .val (.long p3), .second, .val (.long p4), .second, .val (.int p5), .val (.int (Int32.ofNat nn)), .val (.int c0), .val (.int c1), .val (.int (Int32.ofNat kk)), .val (.int (Int32.ofNat mm)), .val (.int d0), .val (.int d1), .unset, .unset, .unset, .unset, .unset, .unset, .unset, .unset, .unset, .unset, .unset, .unset] [(.int (2 : Int32)), (.int p5)])) _
    refine own_back (fun t k => XS.iand Xj821.here hx rfl (hb hby at_89) rfl k) ?_
    show OwnGo p e below (Tj821.setTop (mkF m 90 #[.val (.int p1), .val (.int p2), .val (.long p3), .second, .val (.long p4), .second, .val (.int p5), .val (.int (Int32.ofNat nn)), .val (.int c0), .val (.int c1), .val (.int (Int32.ofNat kk)), .val (.int (Int32.ofNat mm)), .val (.int d0), .val (.int d1), .unset, .unset, .unset, .unset, .unset, .unset, .unset, .unset, .unset, .unset, .unset, .unset] [(.int (p5 &&& (2 : Int32)))])) _
    by_cases hc90_915 : (p5 &&& (2 : Int32)) = (0 : Int32)
    · refine own_back (fun t k => XS.ifYes Xj821.here hx rfl (pc0 := 90) (pc' := 98) rfl (hb hby at_90) rfl (Jvm.Free.XT.i0_eq_t hc90_915) (by decide) (by decide) k) ?_
      show OwnGo p e below (Tj821.setTop (mkF m 98 #[.val (.int p1), .val (.int p2), .val (.long p3), .second, .val (.long p4), .second, .val (.int p5), .val (.int (Int32.ofNat nn)), .val (.int c0), .val (.int c1), .val (.int (Int32.ofNat kk)), .val (.int (Int32.ofNat mm)), .val (.int d0), .val (.int d1), .unset, .unset, .unset, .unset, .unset, .unset, .unset, .unset, .unset, .unset, .unset, .unset] [])) _
      refine own_back (fun t k => XS.iloadN Xj821.here hx rfl (hb hby at_98) rfl k) ?_
      show OwnGo p e below (Tj821.setTop (mkF m 99 #[.val (.int p1), .val (.int p2), .val (.long p3), .second, .val (.long p4), .second, .val (.int p5), .val (.int (Int32.ofNat nn)), .val (.int c0), .val (.int c1), .val (.int (Int32.ofNat kk)), .val (.int (Int32.ofNat mm)), .val (.int d0), .val (.int d1), .unset, .unset, .unset, .unset, .unset, .unset, .unset, .unset, .unset, .unset, .unset, .unset] [(.int p2)])) _
      refine own_back (fun t k => XS.bipush Xj821.here hx rfl (hb hby at_99) k) ?_
      show OwnGo p e below (Tj821.setTop (mkF m 101 #[.val (.int p1), .val (.int p2), .val (.long p3), .second, .val (.long p4), .second, .val (.int p5), .val (.int (Int32.ofNat nn)), .val (.int c0), .val (.int c1), .val (.int (Int32.ofNat kk)), .val (.int (Int32.ofNat mm)), .val (.int d0), .val (.int d1), .unset, .unset, .unset, .unset, .unset, .unset, .unset, .unset, .unset, .unset, .unset, .unset] [(.int (18 : Int32)), (.int p2)])) _
      refine own_back (fun t k => XS.iushr Xj821.here hx rfl (hb hby at_101) rfl k) ?_
      show OwnGo p e below (Tj821.setTop (mkF m 102 #[.val (.int p1), .val (.int p2), .val (.long p3), .second, .val (.long p4), .second, .val (.int p5), .val (.int (Int32.ofNat nn)), .val (.int c0), .val (.int c1), .val (.int (Int32.ofNat kk)), .val (.int (Int32.ofNat mm)), .val (.int d0), .val (.int d1), .unset, .unset, .unset, .unset, .unset, .unset, .unset, .unset, .unset, .unset, .unset, .unset] [(.int ((p2.toUInt32 >>> ((18 : Int32) &&& 31).toUInt32).toInt32))])) _
      refine own_back (fun t k => XS.iconst Xj821.here hx rfl (hb hby at_102) k) ?_
      show OwnGo p e below (Tj821.setTop (mkF m 103 #[.val (.int p1), .val (.int p2), .val (.long p3), .second, .val (.long p4), .second, .val (.int p5), .val (.int (Int32.ofNat nn)), .val (.int c0), .val (.int c1), .val (.int (Int32.ofNat kk)), .val (.int (Int32.ofNat mm)), .val (.int d0), .val (.int d1), .unset, .unset, .unset, .unset, .unset, .unset, .unset, .unset, .unset, .unset, .unset, .unset] [(.int (3 : Int32)), (.int ((p2.toUInt32 >>> ((18 : Int32) &&& 31).toUInt32).toInt32))])) _
      refine own_back (fun t k => XS.iand Xj821.here hx rfl (hb hby at_103) rfl k) ?_
      show OwnGo p e below (Tj821.setTop (mkF m 104 #[.val (.int p1), .val (.int p2), .val (.long p3), .second, .val (.long p4), .second, .val (.int p5), .val (.int (Int32.ofNat nn)), .val (.int c0), .val (.int c1), .val (.int (Int32.ofNat kk)), .val (.int (Int32.ofNat mm)), .val (.int d0), .val (.int d1), .unset, .unset, .unset, .unset, .unset, .unset, .unset, .unset, .unset, .unset, .unset, .unset] [(.int (((p2.toUInt32 >>> ((18 : Int32) &&& 31).toUInt32).toInt32) &&& (3 : Int32)))])) _
      obtain ⟨ki, hki, hkie⟩ := own_and3n ((p2.toUInt32 >>> ((18 : Int32) &&& 31).toUInt32).toInt32)
      rw [hkie]
      show OwnGo p e below (Tj821.setTop (mkF m 104 #[.val (.int p1), .val (.int p2), .val (.long p3), .second, .val (.long p4), .second, .val (.int p5), .val (.int (Int32.ofNat nn)), .val (.int c0), .val (.int c1), .val (.int (Int32.ofNat kk)), .val (.int (Int32.ofNat mm)), .val (.int d0), .val (.int d1), .unset, .unset, .unset, .unset, .unset, .unset, .unset, .unset, .unset, .unset, .unset, .unset] [(.int (Int32.ofNat ki))])) _
      exact tl104_822 _ _ ki ⟨_, _, _, Xj821, ej821, hSj821, hkj821, hZj821, hownj821, CRj821, Oj821, KPj821, Zj821, Nj821⟩ hki
    · refine own_back (fun t k => XS.ifNo Xj821.here hx rfl (hb hby at_90) rfl (Jvm.Free.XT.i0_eq_f hc90_915) k) ?_
      show OwnGo p e below (Tj821.setTop (mkF m 93 #[.val (.int p1), .val (.int p2), .val (.long p3), .second, .val (.long p4), .second, .val (.int p5), .val (.int (Int32.ofNat nn)), .val (.int c0), .val (.int c1), .val (.int (Int32.ofNat kk)), .val (.int (Int32.ofNat mm)), .val (.int d0), .val (.int d1), .unset, .unset, .unset, .unset, .unset, .unset, .unset, .unset, .unset, .unset, .unset, .unset] [])) _
      refine own_back (fun t k => XS.iload Xj821.here hx rfl (hb hby at_93) rfl k) ?_
      show OwnGo p e below (Tj821.setTop (mkF m 95 #[.val (.int p1), .val (.int p2), .val (.long p3), .second, .val (.long p4), .second, .val (.int p5), .val (.int (Int32.ofNat nn)), .val (.int c0), .val (.int c1), .val (.int (Int32.ofNat kk)), .val (.int (Int32.ofNat mm)), .val (.int d0), .val (.int d1), .unset, .unset, .unset, .unset, .unset, .unset, .unset, .unset, .unset, .unset, .unset, .unset] [(.int (Int32.ofNat kk))])) _
      refine own_back (fun t k => XS.goto Xj821.here hx rfl (pc0 := 95) (pc' := 104) rfl (hb hby at_95) (by decide) (by decide) k) ?_
      show OwnGo p e below (Tj821.setTop (mkF m 104 #[.val (.int p1), .val (.int p2), .val (.long p3), .second, .val (.long p4), .second, .val (.int p5), .val (.int (Int32.ofNat nn)), .val (.int c0), .val (.int c1), .val (.int (Int32.ofNat kk)), .val (.int (Int32.ofNat mm)), .val (.int d0), .val (.int d1), .unset, .unset, .unset, .unset, .unset, .unset, .unset, .unset, .unset, .unset, .unset, .unset] [(.int (Int32.ofNat kk))])) _
      exact tl104_822 _ _ kk ⟨_, _, _, Xj821, ej821, hSj821, hkj821, hZj821, hownj821, CRj821, Oj821, KPj821, Zj821, Nj821⟩ hk3
  refine own_back (fun t k => XS.iload X0.here hx rfl (hb hby at_36) rfl k) ?_
  show OwnGo p e below (s₁.setTop (mkF m 38 #[.val (.int p1), .val (.int p2), .val (.long p3), .second, .val (.long p4), .second, .val (.int p5), .val (.int (Int32.ofNat nn)), .val (.int c0), .val (.int c1), .val (.int (Int32.ofNat kk)), .unset, .unset, .unset, .unset, .unset, .unset, .unset, .unset, .unset, .unset, .unset, .unset, .unset, .unset, .unset] [(.int p5)])) _
  refine own_back (fun t k => XS.iconst X0.here hx rfl (hb hby at_38) k) ?_
  show OwnGo p e below (s₁.setTop (mkF m 39 #[.val (.int p1), .val (.int p2), .val (.long p3), .second, .val (.long p4), .second, .val (.int p5), .val (.int (Int32.ofNat nn)), .val (.int c0), .val (.int c1), .val (.int (Int32.ofNat kk)), .unset, .unset, .unset, .unset, .unset, .unset, .unset, .unset, .unset, .unset, .unset, .unset, .unset, .unset, .unset] [(.int (1 : Int32)), (.int p5)])) _
  refine own_back (fun t k => XS.iand X0.here hx rfl (hb hby at_39) rfl k) ?_
  show OwnGo p e below (s₁.setTop (mkF m 40 #[.val (.int p1), .val (.int p2), .val (.long p3), .second, .val (.long p4), .second, .val (.int p5), .val (.int (Int32.ofNat nn)), .val (.int c0), .val (.int c1), .val (.int (Int32.ofNat kk)), .unset, .unset, .unset, .unset, .unset, .unset, .unset, .unset, .unset, .unset, .unset, .unset, .unset, .unset, .unset] [(.int (p5 &&& (1 : Int32)))])) _
  by_cases hc40_916 : (p5 &&& (1 : Int32)) = (0 : Int32)
  · refine own_back (fun t k => XS.ifYes X0.here hx rfl (pc0 := 40) (pc' := 58) rfl (hb hby at_40) rfl (Jvm.Free.XT.i0_eq_t hc40_916) (by decide) (by decide) k) ?_
    show OwnGo p e below (s₁.setTop (mkF m 58 #[.val (.int p1), .val (.int p2), .val (.long p3), .second, .val (.long p4), .second, .val (.int p5), .val (.int (Int32.ofNat nn)), .val (.int c0), .val (.int c1), .val (.int (Int32.ofNat kk)), .unset, .unset, .unset, .unset, .unset, .unset, .unset, .unset, .unset, .unset, .unset, .unset, .unset, .unset, .unset] [])) _
    refine own_back (fun t k => XS.iloadN X0.here hx rfl (hb hby at_58) rfl k) ?_
    show OwnGo p e below (s₁.setTop (mkF m 59 #[.val (.int p1), .val (.int p2), .val (.long p3), .second, .val (.long p4), .second, .val (.int p5), .val (.int (Int32.ofNat nn)), .val (.int c0), .val (.int c1), .val (.int (Int32.ofNat kk)), .unset, .unset, .unset, .unset, .unset, .unset, .unset, .unset, .unset, .unset, .unset, .unset, .unset, .unset, .unset] [(.int p2)])) _
    refine own_back (fun t k => XS.iconst X0.here hx rfl (hb hby at_59) k) ?_
    show OwnGo p e below (s₁.setTop (mkF m 60 #[.val (.int p1), .val (.int p2), .val (.long p3), .second, .val (.long p4), .second, .val (.int p5), .val (.int (Int32.ofNat nn)), .val (.int c0), .val (.int c1), .val (.int (Int32.ofNat kk)), .unset, .unset, .unset, .unset, .unset, .unset, .unset, .unset, .unset, .unset, .unset, .unset, .unset, .unset, .unset] [(.int (3 : Int32)), (.int p2)])) _
    refine own_back (fun t k => XS.iand X0.here hx rfl (hb hby at_60) rfl k) ?_
    show OwnGo p e below (s₁.setTop (mkF m 61 #[.val (.int p1), .val (.int p2), .val (.long p3), .second, .val (.long p4), .second, .val (.int p5), .val (.int (Int32.ofNat nn)), .val (.int c0), .val (.int c1), .val (.int (Int32.ofNat kk)), .unset, .unset, .unset, .unset, .unset, .unset, .unset, .unset, .unset, .unset, .unset, .unset, .unset, .unset, .unset] [(.int (p2 &&& (3 : Int32)))])) _
    refine own_back (fun t k => XS.iconst X0.here hx rfl (hb hby at_61) k) ?_
    show OwnGo p e below (s₁.setTop (mkF m 62 #[.val (.int p1), .val (.int p2), .val (.long p3), .second, .val (.long p4), .second, .val (.int p5), .val (.int (Int32.ofNat nn)), .val (.int c0), .val (.int c1), .val (.int (Int32.ofNat kk)), .unset, .unset, .unset, .unset, .unset, .unset, .unset, .unset, .unset, .unset, .unset, .unset, .unset, .unset, .unset] [(.int (3 : Int32)), (.int (p2 &&& (3 : Int32)))])) _
    refine own_back (fun t k => iremM X0 hx rfl (hb hby at_62) rfl (by decide) k) ?_
    show OwnGo p e below (s₁.setTop (mkF m 63 #[.val (.int p1), .val (.int p2), .val (.long p3), .second, .val (.long p4), .second, .val (.int p5), .val (.int (Int32.ofNat nn)), .val (.int c0), .val (.int c1), .val (.int (Int32.ofNat kk)), .unset, .unset, .unset, .unset, .unset, .unset, .unset, .unset, .unset, .unset, .unset, .unset, .unset, .unset, .unset] [(.int ((p2 &&& (3 : Int32)) % (3 : Int32)))])) _
    obtain ⟨ne, hne, hnee⟩ := own_rem3 p2
    rw [hnee]
    show OwnGo p e below (s₁.setTop (mkF m 63 #[.val (.int p1), .val (.int p2), .val (.long p3), .second, .val (.long p4), .second, .val (.int p5), .val (.int (Int32.ofNat nn)), .val (.int c0), .val (.int c1), .val (.int (Int32.ofNat kk)), .unset, .unset, .unset, .unset, .unset, .unset, .unset, .unset, .unset, .unset, .unset, .unset, .unset, .unset, .unset] [(.int (Int32.ofNat ne))])) _
    refine own_back (fun t k => XS.istore X0.here hx rfl (hb hby at_63) rfl (l' := #[.val (.int p1), .val (.int p2), .val (.long p3), .second, .val (.long p4), .second, .val (.int p5), .val (.int (Int32.ofNat nn)), .val (.int c0), .val (.int c1), .val (.int (Int32.ofNat kk)), .val (.int (Int32.ofNat ne)), .unset, .unset, .unset, .unset, .unset, .unset, .unset, .unset, .unset, .unset, .unset, .unset, .unset, .unset]) rfl k) ?_
    show OwnGo p e below (s₁.setTop (mkF m 65 #[.val (.int p1), .val (.int p2), .val (.long p3), .second, .val (.long p4), .second, .val (.int p5), .val (.int (Int32.ofNat nn)), .val (.int c0), .val (.int c1), .val (.int (Int32.ofNat kk)), .val (.int (Int32.ofNat ne)), .unset, .unset, .unset, .unset, .unset, .unset, .unset, .unset, .unset, .unset, .unset, .unset, .unset, .unset] [])) _
    refine own_back (fun t k => XS.iloadN X0.here hx rfl (hb hby at_65) rfl k) ?_
    show OwnGo p e below (s₁.setTop (mkF m 66 #[.val (.int p1), .val (.int p2), .val (.long p3), .second, .val (.long p4), .second, .val (.int p5), .val (.int (Int32.ofNat nn)), .val (.int c0), .val (.int c1), .val (.int (Int32.ofNat kk)), .val (.int (Int32.ofNat ne)), .unset, .unset, .unset, .unset, .unset, .unset, .unset, .unset, .unset, .unset, .unset, .unset, .unset, .unset] [(.int p2)])) _
    refine own_back (fun t k => XS.iconst X0.here hx rfl (hb hby at_66) k) ?_
    show OwnGo p e below (s₁.setTop (mkF m 67 #[.val (.int p1), .val (.int p2), .val (.long p3), .second, .val (.long p4), .second, .val (.int p5), .val (.int (Int32.ofNat nn)), .val (.int c0), .val (.int c1), .val (.int (Int32.ofNat kk)), .val (.int (Int32.ofNat ne)), .unset, .unset, .unset, .unset, .unset, .unset, .unset, .unset, .unset, .unset, .unset, .unset, .unset, .unset] [(.int (2 : Int32)), (.int p2)])) _
    refine own_back (fun t k => XS.iushr X0.here hx rfl (hb hby at_67) rfl k) ?_
    show OwnGo p e below (s₁.setTop (mkF m 68 #[.val (.int p1), .val (.int p2), .val (.long p3), .second, .val (.long p4), .second, .val (.int p5), .val (.int (Int32.ofNat nn)), .val (.int c0), .val (.int c1), .val (.int (Int32.ofNat kk)), .val (.int (Int32.ofNat ne)), .unset, .unset, .unset, .unset, .unset, .unset, .unset, .unset, .unset, .unset, .unset, .unset, .unset, .unset] [(.int ((p2.toUInt32 >>> ((2 : Int32) &&& 31).toUInt32).toInt32))])) _
    refine own_back (fun t k => XS.sipush X0.here hx rfl (hb hby at_68) k) ?_
    show OwnGo p e below (s₁.setTop (mkF m 71 #[.val (.int p1), .val (.int p2), .val (.long p3), .second, .val (.long p4), .second, .val (.int p5), .val (.int (Int32.ofNat nn)), .val (.int c0), .val (.int c1), .val (.int (Int32.ofNat kk)), .val (.int (Int32.ofNat ne)), .unset, .unset, .unset, .unset, .unset, .unset, .unset, .unset, .unset, .unset, .unset, .unset, .unset, .unset] [(.int (255 : Int32)), (.int ((p2.toUInt32 >>> ((2 : Int32) &&& 31).toUInt32).toInt32))])) _
    refine own_back (fun t k => XS.iand X0.here hx rfl (hb hby at_71) rfl k) ?_
    show OwnGo p e below (s₁.setTop (mkF m 72 #[.val (.int p1), .val (.int p2), .val (.long p3), .second, .val (.long p4), .second, .val (.int p5), .val (.int (Int32.ofNat nn)), .val (.int c0), .val (.int c1), .val (.int (Int32.ofNat kk)), .val (.int (Int32.ofNat ne)), .unset, .unset, .unset, .unset, .unset, .unset, .unset, .unset, .unset, .unset, .unset, .unset, .unset, .unset] [(.int (((p2.toUInt32 >>> ((2 : Int32) &&& 31).toUInt32).toInt32) &&& (255 : Int32)))])) _
    refine own_back (fun t k => XS.i2c X0.here hx rfl (hb hby at_72) rfl k) ?_
    show OwnGo p e below (s₁.setTop (mkF m 73 #[.val (.int p1), .val (.int p2), .val (.long p3), .second, .val (.long p4), .second, .val (.int p5), .val (.int (Int32.ofNat nn)), .val (.int c0), .val (.int c1), .val (.int (Int32.ofNat kk)), .val (.int (Int32.ofNat ne)), .unset, .unset, .unset, .unset, .unset, .unset, .unset, .unset, .unset, .unset, .unset, .unset, .unset, .unset] [(.int (((p2.toUInt32 >>> ((2 : Int32) &&& 31).toUInt32).toInt32) &&& (255 : Int32)).toUInt32.toUInt16.toUInt32.toInt32)])) _
    obtain ⟨u0, hu0, t0⟩ : ∃ z : Int32, z = (((p2.toUInt32 >>> ((2 : Int32) &&& 31).toUInt32).toInt32) &&& (255 : Int32)).toUInt32.toUInt16.toUInt32.toInt32 ∧ own_r z := ⟨_, rfl, own_r255 _⟩
    rw [← hu0]
    show OwnGo p e below (s₁.setTop (mkF m 73 #[.val (.int p1), .val (.int p2), .val (.long p3), .second, .val (.long p4), .second, .val (.int p5), .val (.int (Int32.ofNat nn)), .val (.int c0), .val (.int c1), .val (.int (Int32.ofNat kk)), .val (.int (Int32.ofNat ne)), .unset, .unset, .unset, .unset, .unset, .unset, .unset, .unset, .unset, .unset, .unset, .unset, .unset, .unset] [(.int u0)])) _
    refine own_back (fun t k => XS.istore X0.here hx rfl (hb hby at_73) rfl (l' := #[.val (.int p1), .val (.int p2), .val (.long p3), .second, .val (.long p4), .second, .val (.int p5), .val (.int (Int32.ofNat nn)), .val (.int c0), .val (.int c1), .val (.int (Int32.ofNat kk)), .val (.int (Int32.ofNat ne)), .val (.int u0), .unset, .unset, .unset, .unset, .unset, .unset, .unset, .unset, .unset, .unset, .unset, .unset, .unset]) rfl k) ?_
    show OwnGo p e below (s₁.setTop (mkF m 75 #[.val (.int p1), .val (.int p2), .val (.long p3), .second, .val (.long p4), .second, .val (.int p5), .val (.int (Int32.ofNat nn)), .val (.int c0), .val (.int c1), .val (.int (Int32.ofNat kk)), .val (.int (Int32.ofNat ne)), .val (.int u0), .unset, .unset, .unset, .unset, .unset, .unset, .unset, .unset, .unset, .unset, .unset, .unset, .unset] [])) _
    refine own_back (fun t k => XS.iloadN X0.here hx rfl (hb hby at_75) rfl k) ?_
    show OwnGo p e below (s₁.setTop (mkF m 76 #[.val (.int p1), .val (.int p2), .val (.long p3), .second, .val (.long p4), .second, .val (.int p5), .val (.int (Int32.ofNat nn)), .val (.int c0), .val (.int c1), .val (.int (Int32.ofNat kk)), .val (.int (Int32.ofNat ne)), .val (.int u0), .unset, .unset, .unset, .unset, .unset, .unset, .unset, .unset, .unset, .unset, .unset, .unset, .unset] [(.int p2)])) _
    refine own_back (fun t k => XS.bipush X0.here hx rfl (hb hby at_76) k) ?_
    show OwnGo p e below (s₁.setTop (mkF m 78 #[.val (.int p1), .val (.int p2), .val (.long p3), .second, .val (.long p4), .second, .val (.int p5), .val (.int (Int32.ofNat nn)), .val (.int c0), .val (.int c1), .val (.int (Int32.ofNat kk)), .val (.int (Int32.ofNat ne)), .val (.int u0), .unset, .unset, .unset, .unset, .unset, .unset, .unset, .unset, .unset, .unset, .unset, .unset, .unset] [(.int (10 : Int32)), (.int p2)])) _
    refine own_back (fun t k => XS.iushr X0.here hx rfl (hb hby at_78) rfl k) ?_
    show OwnGo p e below (s₁.setTop (mkF m 79 #[.val (.int p1), .val (.int p2), .val (.long p3), .second, .val (.long p4), .second, .val (.int p5), .val (.int (Int32.ofNat nn)), .val (.int c0), .val (.int c1), .val (.int (Int32.ofNat kk)), .val (.int (Int32.ofNat ne)), .val (.int u0), .unset, .unset, .unset, .unset, .unset, .unset, .unset, .unset, .unset, .unset, .unset, .unset, .unset] [(.int ((p2.toUInt32 >>> ((10 : Int32) &&& 31).toUInt32).toInt32))])) _
    refine own_back (fun t k => XS.sipush X0.here hx rfl (hb hby at_79) k) ?_
    show OwnGo p e below (s₁.setTop (mkF m 82 #[.val (.int p1), .val (.int p2), .val (.long p3), .second, .val (.long p4), .second, .val (.int p5), .val (.int (Int32.ofNat nn)), .val (.int c0), .val (.int c1), .val (.int (Int32.ofNat kk)), .val (.int (Int32.ofNat ne)), .val (.int u0), .unset, .unset, .unset, .unset, .unset, .unset, .unset, .unset, .unset, .unset, .unset, .unset, .unset] [(.int (255 : Int32)), (.int ((p2.toUInt32 >>> ((10 : Int32) &&& 31).toUInt32).toInt32))])) _
    refine own_back (fun t k => XS.iand X0.here hx rfl (hb hby at_82) rfl k) ?_
    show OwnGo p e below (s₁.setTop (mkF m 83 #[.val (.int p1), .val (.int p2), .val (.long p3), .second, .val (.long p4), .second, .val (.int p5), .val (.int (Int32.ofNat nn)), .val (.int c0), .val (.int c1), .val (.int (Int32.ofNat kk)), .val (.int (Int32.ofNat ne)), .val (.int u0), .unset, .unset, .unset, .unset, .unset, .unset, .unset, .unset, .unset, .unset, .unset, .unset, .unset] [(.int (((p2.toUInt32 >>> ((10 : Int32) &&& 31).toUInt32).toInt32) &&& (255 : Int32)))])) _
    refine own_back (fun t k => XS.i2c X0.here hx rfl (hb hby at_83) rfl k) ?_
    show OwnGo p e below (s₁.setTop (mkF m 84 #[.val (.int p1), .val (.int p2), .val (.long p3), .second, .val (.long p4), .second, .val (.int p5), .val (.int (Int32.ofNat nn)), .val (.int c0), .val (.int c1), .val (.int (Int32.ofNat kk)), .val (.int (Int32.ofNat ne)), .val (.int u0), .unset, .unset, .unset, .unset, .unset, .unset, .unset, .unset, .unset, .unset, .unset, .unset, .unset] [(.int (((p2.toUInt32 >>> ((10 : Int32) &&& 31).toUInt32).toInt32) &&& (255 : Int32)).toUInt32.toUInt16.toUInt32.toInt32)])) _
    obtain ⟨u1, hu1, t1⟩ : ∃ z : Int32, z = (((p2.toUInt32 >>> ((10 : Int32) &&& 31).toUInt32).toInt32) &&& (255 : Int32)).toUInt32.toUInt16.toUInt32.toInt32 ∧ own_r z := ⟨_, rfl, own_r255 _⟩
    rw [← hu1]
    show OwnGo p e below (s₁.setTop (mkF m 84 #[.val (.int p1), .val (.int p2), .val (.long p3), .second, .val (.long p4), .second, .val (.int p5), .val (.int (Int32.ofNat nn)), .val (.int c0), .val (.int c1), .val (.int (Int32.ofNat kk)), .val (.int (Int32.ofNat ne)), .val (.int u0), .unset, .unset, .unset, .unset, .unset, .unset, .unset, .unset, .unset, .unset, .unset, .unset, .unset] [(.int u1)])) _
    refine own_back (fun t k => XS.istore X0.here hx rfl (hb hby at_84) rfl (l' := #[.val (.int p1), .val (.int p2), .val (.long p3), .second, .val (.long p4), .second, .val (.int p5), .val (.int (Int32.ofNat nn)), .val (.int c0), .val (.int c1), .val (.int (Int32.ofNat kk)), .val (.int (Int32.ofNat ne)), .val (.int u0), .val (.int u1), .unset, .unset, .unset, .unset, .unset, .unset, .unset, .unset, .unset, .unset, .unset, .unset]) rfl k) ?_
    show OwnGo p e below (s₁.setTop (mkF m 86 #[.val (.int p1), .val (.int p2), .val (.long p3), .second, .val (.long p4), .second, .val (.int p5), .val (.int (Int32.ofNat nn)), .val (.int c0), .val (.int c1), .val (.int (Int32.ofNat kk)), .val (.int (Int32.ofNat ne)), .val (.int u0), .val (.int u1), .unset, .unset, .unset, .unset, .unset, .unset, .unset, .unset, .unset, .unset, .unset, .unset] [])) _
    exact tl86_821 _ _ ne u0 u1 ⟨_, _, _, X0, e0, hS0, hk0, hZ, hown, CR0, OL, KP0, Z0, N0⟩ hne t0 t1
  · refine own_back (fun t k => XS.ifNo X0.here hx rfl (hb hby at_40) rfl (Jvm.Free.XT.i0_eq_f hc40_916) k) ?_
    show OwnGo p e below (s₁.setTop (mkF m 43 #[.val (.int p1), .val (.int p2), .val (.long p3), .second, .val (.long p4), .second, .val (.int p5), .val (.int (Int32.ofNat nn)), .val (.int c0), .val (.int c1), .val (.int (Int32.ofNat kk)), .unset, .unset, .unset, .unset, .unset, .unset, .unset, .unset, .unset, .unset, .unset, .unset, .unset, .unset, .unset] [])) _
    refine own_back (fun t k => XS.iload X0.here hx rfl (hb hby at_43) rfl k) ?_
    show OwnGo p e below (s₁.setTop (mkF m 45 #[.val (.int p1), .val (.int p2), .val (.long p3), .second, .val (.long p4), .second, .val (.int p5), .val (.int (Int32.ofNat nn)), .val (.int c0), .val (.int c1), .val (.int (Int32.ofNat kk)), .unset, .unset, .unset, .unset, .unset, .unset, .unset, .unset, .unset, .unset, .unset, .unset, .unset, .unset, .unset] [(.int (Int32.ofNat nn))])) _
    refine own_back (fun t k => XS.istore X0.here hx rfl (hb hby at_45) rfl (l' := #[.val (.int p1), .val (.int p2), .val (.long p3), .second, .val (.long p4), .second, .val (.int p5), .val (.int (Int32.ofNat nn)), .val (.int c0), .val (.int c1), .val (.int (Int32.ofNat kk)), .val (.int (Int32.ofNat nn)), .unset, .unset, .unset, .unset, .unset, .unset, .unset, .unset, .unset, .unset, .unset, .unset, .unset, .unset]) rfl k) ?_
    show OwnGo p e below (s₁.setTop (mkF m 47 #[.val (.int p1), .val (.int p2), .val (.long p3), .second, .val (.long p4), .second, .val (.int p5), .val (.int (Int32.ofNat nn)), .val (.int c0), .val (.int c1), .val (.int (Int32.ofNat kk)), .val (.int (Int32.ofNat nn)), .unset, .unset, .unset, .unset, .unset, .unset, .unset, .unset, .unset, .unset, .unset, .unset, .unset, .unset] [])) _
    refine own_back (fun t k => XS.iload X0.here hx rfl (hb hby at_47) rfl k) ?_
    show OwnGo p e below (s₁.setTop (mkF m 49 #[.val (.int p1), .val (.int p2), .val (.long p3), .second, .val (.long p4), .second, .val (.int p5), .val (.int (Int32.ofNat nn)), .val (.int c0), .val (.int c1), .val (.int (Int32.ofNat kk)), .val (.int (Int32.ofNat nn)), .unset, .unset, .unset, .unset, .unset, .unset, .unset, .unset, .unset, .unset, .unset, .unset, .unset, .unset] [(.int c0)])) _
    refine own_back (fun t k => XS.istore X0.here hx rfl (hb hby at_49) rfl (l' := #[.val (.int p1), .val (.int p2), .val (.long p3), .second, .val (.long p4), .second, .val (.int p5), .val (.int (Int32.ofNat nn)), .val (.int c0), .val (.int c1), .val (.int (Int32.ofNat kk)), .val (.int (Int32.ofNat nn)), .val (.int c0), .unset, .unset, .unset, .unset, .unset, .unset, .unset, .unset, .unset, .unset, .unset, .unset, .unset]) rfl k) ?_
    show OwnGo p e below (s₁.setTop (mkF m 51 #[.val (.int p1), .val (.int p2), .val (.long p3), .second, .val (.long p4), .second, .val (.int p5), .val (.int (Int32.ofNat nn)), .val (.int c0), .val (.int c1), .val (.int (Int32.ofNat kk)), .val (.int (Int32.ofNat nn)), .val (.int c0), .unset, .unset, .unset, .unset, .unset, .unset, .unset, .unset, .unset, .unset, .unset, .unset, .unset] [])) _
    refine own_back (fun t k => XS.iload X0.here hx rfl (hb hby at_51) rfl k) ?_
    show OwnGo p e below (s₁.setTop (mkF m 53 #[.val (.int p1), .val (.int p2), .val (.long p3), .second, .val (.long p4), .second, .val (.int p5), .val (.int (Int32.ofNat nn)), .val (.int c0), .val (.int c1), .val (.int (Int32.ofNat kk)), .val (.int (Int32.ofNat nn)), .val (.int c0), .unset, .unset, .unset, .unset, .unset, .unset, .unset, .unset, .unset, .unset, .unset, .unset, .unset] [(.int c1)])) _
    refine own_back (fun t k => XS.istore X0.here hx rfl (hb hby at_53) rfl (l' := #[.val (.int p1), .val (.int p2), .val (.long p3), .second, .val (.long p4), .second, .val (.int p5), .val (.int (Int32.ofNat nn)), .val (.int c0), .val (.int c1), .val (.int (Int32.ofNat kk)), .val (.int (Int32.ofNat nn)), .val (.int c0), .val (.int c1), .unset, .unset, .unset, .unset, .unset, .unset, .unset, .unset, .unset, .unset, .unset, .unset]) rfl k) ?_
    show OwnGo p e below (s₁.setTop (mkF m 55 #[.val (.int p1), .val (.int p2), .val (.long p3), .second, .val (.long p4), .second, .val (.int p5), .val (.int (Int32.ofNat nn)), .val (.int c0), .val (.int c1), .val (.int (Int32.ofNat kk)), .val (.int (Int32.ofNat nn)), .val (.int c0), .val (.int c1), .unset, .unset, .unset, .unset, .unset, .unset, .unset, .unset, .unset, .unset, .unset, .unset] [])) _
    refine own_back (fun t k => XS.goto X0.here hx rfl (pc0 := 55) (pc' := 86) rfl (hb hby at_55) (by decide) (by decide) k) ?_
    show OwnGo p e below (s₁.setTop (mkF m 86 #[.val (.int p1), .val (.int p2), .val (.long p3), .second, .val (.long p4), .second, .val (.int p5), .val (.int (Int32.ofNat nn)), .val (.int c0), .val (.int c1), .val (.int (Int32.ofNat kk)), .val (.int (Int32.ofNat nn)), .val (.int c0), .val (.int c1), .unset, .unset, .unset, .unset, .unset, .unset, .unset, .unset, .unset, .unset, .unset, .unset] [])) _
    exact tl86_821 _ _ nn c0 c1 ⟨_, _, _, X0, e0, hS0, hk0, hZ, hown, CR0, OL, KP0, Z0, N0⟩ hn r0 r1
set_option maxRecDepth 65536 in
set_option maxHeartbeats 40000000 in
theorem comes_1 {Post : Tables → Env → Array Value → State → Outcome → State → Prop} (hpost : ∀ tb e args s v u, (limb_1_1.after args s (.returned v) u = true ∧ limb_1_2.after args s (.returned v) u = true ∧ True) → ReturnedEndW s (.returned v) u (Jvm.fieldLocs frame_1_writes args s ++ Jvm.arrayLocs frame_1_arrays args s ++ Jvm.staticLocs frame_1_statics s) 40 3264 → Post tb e args s (.returned v) u) :
    ArmFor flags0 classFile x code maxLocals ret World_1 tables_1 room_1 Calls_1 rest_1 Pre_1 Post := by
  intro l hfl _ _ p e ha hc hk s m args below hf hA hF happ hP
  obtain ⟨hcalls, hrest, hpre⟩ := hP
  obtain ⟨-, -, -, hnamed, -, -, -, hat⟩ := (Spec.applies_iff hf).mp happ
  obtain ⟨hg, hn⟩ := and_e (Cond.before_iff.mp (show (Jvm.Cond.and given_1 narrow_1).before args s = true from hpre))
  obtain ⟨g1, g2⟩ := and_e hg
  obtain ⟨g3, g4⟩ := and_e g2
  obtain ⟨g5, g6⟩ := and_e g4
  obtain ⟨g7, g8⟩ := and_e g6
  obtain ⟨g9, g10⟩ := and_e g8
  obtain ⟨g11, g12⟩ := and_e hn
  obtain ⟨g13, g14⟩ := and_e g12
  obtain ⟨g15, g16⟩ := and_e g14
  obtain ⟨g17, g18⟩ := and_e g16
  obtain ⟨g19, g20⟩ := and_e g18
  obtain ⟨g21, g22⟩ := and_e g20
  obtain ⟨g23, g24⟩ := and_e g22
  obtain ⟨w0, w1, w2, w3, w4, rfl⟩ : ∃ w0 w1 w2 w3 w4 : Value, args = #[w0, w1, w2, w3, w4] := by
    have hs : args.size = 5 := by simpa [Cond.value, given_1] using g1
    obtain ⟨L⟩ := args
    match L, hs with
    | [w0, w1, w2, w3, w4], _ => exact ⟨w0, w1, w2, w3, w4, rfl⟩
  have hw := fun d (hd : d ∈ tables_1) => atoms_spec (ws := Jvm.Cond.code x code maxLocals ret :: tables_1) hat d (List.mem_cons_of_mem _ hd)
  have hfit : Fit s := fun {y c} hc i hi => by
    obtain ⟨ha, rfl⟩ := Array.getElem?_eq_some_iff.mp hc
    have q := List.all_eq_true.mp ((Array.all_eq_true_iff_forall_mem.mp hF) _ (Array.getElem_mem ha)) i (List.mem_range.mpr hi)
    simpa [Array.getElem?_eq_getElem hi] using q
  obtain ⟨hsets, hown0⟩ := atoms_of _ (rest_1_c_eq ▸ (show rest_1_c.before _ s = true from hrest))
  have hr0 := Cond.before_iff.mp hown0
  obtain ⟨i0, ei0⟩ := is_v g3
  obtain rfl : w0 = (.int i0) := Option.some.inj ei0
  obtain ⟨i1, ei1⟩ := is_v g5
  obtain rfl : w1 = (.int i1) := Option.some.inj ei1
  obtain ⟨i2, ei2⟩ := isL_v g7
  obtain rfl : w2 = (.long i2) := Option.some.inj ei2
  obtain ⟨i3, ei3⟩ := isL_v g9
  obtain rfl : w3 = (.long i3) := Option.some.inj ei3
  obtain ⟨i4, ei4⟩ := is_v g10
  obtain rfl : w4 = (.int i4) := Option.some.inj ei4
  obtain ⟨wPENDING, vPENDING⟩ := exa_v g11
  have SPENDING : Sta s s.heap "com/example/lease/lease/PartitionStatus" "PENDING" "Lcom/example/lease/lease/PartitionStatus;" (.ref wPENDING) := Sta.start vPENDING (Or.inr ⟨(hw _ (List.mem_of_getElem? (i := 33) rfl)), (hw _ (List.mem_of_getElem? (i := 34) rfl))⟩)
  have EPENDING : Exa s s.heap wPENDING "com/example/lease/lease/PartitionStatus" := Exa.start vPENDING g11
  have FPENDING : Fld s s.heap wPENDING "java/lang/Enum" "ordinal" "I" (.int 0) := Fld.start ((fld_at vPENDING).symm.trans (own_eqint g19))
  obtain ⟨wLEASED, vLEASED⟩ := exa_v g21
  have SLEASED : Sta s s.heap "com/example/lease/lease/PartitionStatus" "LEASED" "Lcom/example/lease/lease/PartitionStatus;" (.ref wLEASED) := Sta.start vLEASED (Or.inr ⟨(hw _ (List.mem_of_getElem? (i := 33) rfl)), (hw _ (List.mem_of_getElem? (i := 134) rfl))⟩)
  have ELEASED : Exa s s.heap wLEASED "com/example/lease/lease/PartitionStatus" := Exa.start vLEASED g21
  have FLEASED : Fld s s.heap wLEASED "java/lang/Enum" "ordinal" "I" (.int 1) := Fld.start ((fld_at vLEASED).symm.trans (own_eqint g24))
  obtain ⟨wCOMPLETED, vCOMPLETED⟩ := exa_v g13
  have SCOMPLETED : Sta s s.heap "com/example/lease/lease/PartitionStatus" "COMPLETED" "Lcom/example/lease/lease/PartitionStatus;" (.ref wCOMPLETED) := Sta.start vCOMPLETED (Or.inr ⟨(hw _ (List.mem_of_getElem? (i := 33) rfl)), (hw _ (List.mem_of_getElem? (i := 121) rfl))⟩)
  have ECOMPLETED : Exa s s.heap wCOMPLETED "com/example/lease/lease/PartitionStatus" := Exa.start vCOMPLETED g13
  have FCOMPLETED : Fld s s.heap wCOMPLETED "java/lang/Enum" "ordinal" "I" (.int 2) := Fld.start ((fld_at vCOMPLETED).symm.trans (own_eqint g23))
  obtain ⟨wFAILED, vFAILED⟩ := exa_v g15
  have SFAILED : Sta s s.heap "com/example/lease/lease/PartitionStatus" "FAILED" "Lcom/example/lease/lease/PartitionStatus;" (.ref wFAILED) := Sta.start vFAILED (Or.inr ⟨(hw _ (List.mem_of_getElem? (i := 33) rfl)), (hw _ (List.mem_of_getElem? (i := 130) rfl))⟩)
  have EFAILED : Exa s s.heap wFAILED "com/example/lease/lease/PartitionStatus" := Exa.start vFAILED g15
  have FFAILED : Fld s s.heap wFAILED "java/lang/Enum" "ordinal" "I" (.int 3) := Fld.start ((fld_at vFAILED).symm.trans (own_eqint g17))
  obtain ⟨cz, ecz⟩ := is_v (Cond.before_iff.mp (hsets _ (List.mem_of_getElem? (i := 7) rfl)))
  have SC : Sta s s.heap "java/lang/String" "COMPACT_STRINGS" "Z" (.int cz) := Sta.start ecz (Or.inl (hsets _ (List.mem_of_getElem? (i := 6) rfl)))
  have ncz := not_v (Cond.before_iff.mp (hsets _ (List.mem_of_getElem? (i := 8) rfl)))
  have hcz : ¬ (cz = (0 : Int32)) := gotF (Cond.eq_ints ecz (Term.int_eval (0))) ncz
  obtain ⟨w8, v8⟩ := exa_v (Cond.before_iff.mp (hsets _ (List.mem_of_getElem? (i := 17) rfl)))
  have vU := own_eqref v8 (Cond.before_iff.mp (hsets _ (List.mem_of_getElem? (i := 4) rfl)))
  have SI : Sta s s.heap "sun/nio/cs/UTF_8" "INSTANCE" "Lsun/nio/cs/UTF_8;" (.ref w8) := Sta.start v8 (Or.inl (hsets _ (List.mem_of_getElem? (i := 3) rfl)))
  have SU : Sta s s.heap "java/nio/charset/StandardCharsets" "UTF_8" "Ljava/nio/charset/Charset;" (.ref w8) := Sta.start vU (Or.inl (hsets _ (List.mem_of_getElem? (i := 1) rfl)))
  have hCH : CHv s own_EL s.vm s.heap := CHv.start (own_EW hw) (fun p hp => hcalls.1 p hp) (hsets _ (List.mem_of_getElem? (i := 8) rfl)) (hw _ (List.mem_of_getElem? (i := 19) rfl)) (hw _ (List.mem_of_getElem? (i := 5) rfl))
  obtain ⟨n, o, h1, h2, h3, _, L, rfl, ⟨rfl, N⟩, -, hq⟩ := rm_law l s _ hw tables_1 i0 i1 i2 i3 i4 wPENDING wLEASED wCOMPLETED wFAILED w8 cz s.heap s.heap.size (Nat.le_refl _) (Old.start s) SPENDING SLEASED SCOMPLETED SFAILED EPENDING ELEASED ECOMPLETED EFAILED (Fld.ne FPENDING FLEASED (by decide)) (Fld.ne FPENDING FCOMPLETED (by decide)) (Fld.ne FPENDING FFAILED (by decide)) (Fld.ne FLEASED FCOMPLETED (by decide)) (Fld.ne FLEASED FFAILED (by decide)) (Fld.ne FCOMPLETED FFAILED (by decide)) SU SI SC hcz p e ha hc hk s m _ below hf ((Spec.applies_iff_loose hf).mp happ).1 ⟨rfl, State.Warmed39.refl s, rfl, hCH, fun _ q => nomatch q⟩ trivial
  refine ⟨n, _, h1, h2, h3, hpost _ _ _ _ _ _ ⟨Cond.after_iff.mpr rfl, Cond.after_iff.mpr (eq_i res_at (Term.int_eval (1)) rfl), trivial⟩ ⟨hq.1, hq.2.1, hq.2.2.1, (hq.2.2.2.sift fun y hy => Or.inr (N y hy)).mono (by decide) (by decide)⟩⟩
theorem main_1_1 : Claimed_1_1 := comes_1 fun _ _ _ _ _ _ h hF => ⟨h.1, hF⟩
theorem main_1_2 : Claimed_1_2 := comes_1 fun _ _ _ _ _ _ h hF => ⟨h.2.1, hF⟩
end Jvm.Pilot.@@N@@
namespace Jvm.Pilot.@@N@@
open Jvm Jvm.ClassFile Sem Op Lib Jvm.Free Jvm.Stand Jvm.Pilot.@@N@@.Jvm.D
/-! MADE BY PROGRAM (witnessworld.py) out of the Statement's table words and the real class files: 32 classes; the members and pool entries that the words name. The judged class is class 1, her method 3. -/
namespace start1
open Jvm.ClassFile
def u (s : String) : CpInfo := .utf8 (stringToUtf16 s)
/-- a pool by its gaps: so many unusable entries, then the entry; so many at the end -/
def gap : Nat → List CpInfo → List CpInfo
  | 0, r => r
  | n + 1, r => .unusable :: gap n r
def poolList (es : List (Nat × CpInfo)) (last : Nat) : List CpInfo := es.foldr (fun e r => gap e.1 (e.2 :: r)) (gap last [])
def pool (es : List (Nat × CpInfo)) (last : Nat) : Array CpInfo := ⟨poolList es last⟩
def fileOf (pool : Array CpInfo) (this : Nat) (attrs : Array Attribute := #[]) (ms : Array MethodInfo := #[]) (fl : Nat := 33) (sup : Nat := 0) (ifs : Array Nat := #[]) (fds : Array FieldInfo := #[]) : ClassFile where
  minorVersion := 0
  majorVersion := 65
  constantPool := pool
  accessFlags := fl
  thisClass := this
  superClass := sup
  interfaces := ifs
  fields := fds
  methods := ms
  attributes := attrs
def plain (name : String) (sup : Option ClassId) : Class where
  name := name
  kind := .ordinary
  loader := none
  accessFlags := 33
  super := sup
  interfaces := #[]
  cf := none
  fields := #[]
  methods := #[]
  instanceTypes := #[]
  staticTypes := #[]
  resolved := #[]
  callSites := []
  init := .initialized
  statics := none
  mirror := none

def pool0 : Array CpInfo := pool [(5, u "<init>"), (0, u "()V"), (1, .class_ 10), (1, u "java/lang/Object"), (85, u "clone"), (0, u "()Ljava/lang/Object;")] 26

def k0c0 : Code := { maxStack := 0, maxLocals := 1, code := object_method_1_code, exceptionTable := #[], attributes := #[] }
def k0m0 : Method := { name := "<init>", desc := "()V", sig := { parameters := [], returnType := none }, accessFlags := 1, code := some k0c0 }
def k0m1 : Method := { name := "clone", desc := "()Ljava/lang/Object;", sig := { parameters := [], returnType := some (.object "java/lang/Object") }, accessFlags := 260, code := none }
/-- java/lang/Object -/
def k0 : Class := { plain "java/lang/Object" none with
  accessFlags := 33
  interfaces := #[]
  cf := some (fileOf pool0 8 #[] #[{ accessFlags := 1, nameIndex := 5, descriptorIndex := 6, attributes := #[] }, { accessFlags := 260, nameIndex := 96, descriptorIndex := 97, attributes := #[] }] 33 0 #[] #[])
  fields := #[]
  methods := #[k0m0, k0m1]
  instanceTypes := #[]
  staticTypes := #[]
  resolved := Array.replicate 124 none
  statics := none }

def pool1 : Array CpInfo := pool [(2, .class_ 4), (1, u "java/lang/Object"), (0, u "<init>"), (0, u "()V"), (0, .fieldref 8 9), (0, .class_ 10), (0, .nameAndType 11 12), (0, u "com/example/lease/lease/PartitionStatus"), (0, u "PENDING"), (0, u "Lcom/example/lease/lease/PartitionStatus;"), (0, .fieldref 8 14), (0, .nameAndType 15 12), (0, u "LEASED"), (0, .fieldref 8 17), (0, .nameAndType 18 12), (0, u "COMPLETED"), (0, .fieldref 8 20), (0, .nameAndType 21 12), (0, u "FAILED"), (0, .class_ 23), (0, u "java/lang/String"), (0, .methodref 22 25), (0, .nameAndType 5 26), (0, u "([C)V"), (0, .methodref 28 29), (0, .class_ 30), (0, .nameAndType 31 32), (0, u "com/example/lease/lease/OwnerCountEqualsPinLaw"), (0, u "mk"), (0, u "(ICC)Ljava/lang/String;"), (0, .class_ 34), (0, u "com/example/lease/lease/OwnerCount"), (0, .methodref 28 36), (0, .nameAndType 37 38), (0, u "st"), (0, u "(I)Lcom/example/lease/lease/PartitionStatus;"), (0, .methodref 33 40), (0, .nameAndType 5 41), (0, u "(Ljava/lang/String;Lcom/example/lease/lease/PartitionStatus;J)V"), (0, .methodref 33 43), (0, .nameAndType 44 45), (0, u "equals"), (0, u "(Ljava/lang/Object;)Z"), (3, u "law"), (0, u "(IIJJI)Z")] 2

def k1m0 : Method := { name := "<init>", desc := "()V", sig := { parameters := [], returnType := none }, accessFlags := 1, code := none }
def k1c1 : Code := { maxStack := 2, maxLocals := 1, code := method_2_code, exceptionTable := #[], attributes := #[] }
def k1m1 : Method := { name := "st", desc := "(I)Lcom/example/lease/lease/PartitionStatus;", sig := { parameters := [.int], returnType := some (.object "com/example/lease/lease/PartitionStatus") }, accessFlags := 10, code := some k1c1 }
def k1c2 : Code := { maxStack := 6, maxLocals := 3, code := method_3_code, exceptionTable := #[], attributes := #[] }
def k1m2 : Method := { name := "mk", desc := "(ICC)Ljava/lang/String;", sig := { parameters := [.int, .char, .char], returnType := some (.object "java/lang/String") }, accessFlags := 10, code := some k1c2 }
def k1c3 : Code := { maxStack := 6, maxLocals := 26, code := code, exceptionTable := #[], attributes := #[] }
def k1m3 : Method := { name := "law", desc := "(IIJJI)Z", sig := { parameters := [.int, .int, .long, .long, .int], returnType := some .boolean }, accessFlags := 9, code := some k1c3 }
/-- com/example/lease/lease/OwnerCountEqualsPinLaw -/
def k1 : Class := { plain "com/example/lease/lease/OwnerCountEqualsPinLaw" (some 0) with
  accessFlags := 49
  interfaces := #[]
  cf := some (fileOf pool1 28 #[] #[{ accessFlags := 1, nameIndex := 5, descriptorIndex := 6, attributes := #[] }, { accessFlags := 10, nameIndex := 37, descriptorIndex := 38, attributes := #[] }, { accessFlags := 10, nameIndex := 31, descriptorIndex := 32, attributes := #[] }, { accessFlags := 9, nameIndex := 49, descriptorIndex := 50, attributes := #[] }] 49 2 #[] #[])
  fields := #[]
  methods := #[k1m0, k1m1, k1m2, k1m3]
  instanceTypes := #[]
  staticTypes := #[]
  resolved := Array.replicate 53 none
  statics := none }

def pool2 : Array CpInfo := pool [(1, .class_ 2), (0, u "java/io/Serializable"), (0, .class_ 4), (0, u "java/lang/Object")] 2

/-- java/io/Serializable -/
def k2 : Class := { plain "java/io/Serializable" (some 0) with
  accessFlags := 1537
  interfaces := #[]
  cf := some (fileOf pool2 1 #[] #[] 1537 3 #[] #[])
  fields := #[]
  methods := #[]
  instanceTypes := #[]
  staticTypes := #[]
  resolved := Array.replicate 7 none
  statics := none }

def pool3 : Array CpInfo := pool [(1, .class_ 2), (0, u "java/lang/Comparable"), (0, .class_ 4), (0, u "java/lang/Object")] 7

/-- java/lang/Comparable -/
def k3 : Class := { plain "java/lang/Comparable" (some 0) with
  accessFlags := 1537
  interfaces := #[]
  cf := some (fileOf pool3 1 #[] #[] 1537 3 #[] #[])
  fields := #[]
  methods := #[]
  instanceTypes := #[]
  staticTypes := #[]
  resolved := Array.replicate 12 none
  statics := none }

def pool4 : Array CpInfo := pool [(2, .class_ 4), (1, u "java/lang/CharSequence"), (42, .class_ 48), (0, u "java/lang/CharSequence$1CodePointIterator"), (10, .class_ 60), (0, u "java/lang/CharSequence$1CharIterator"), (5, .class_ 67), (0, u "java/lang/Object")] 63

/-- java/lang/CharSequence -/
def k4 : Class := { plain "java/lang/CharSequence" (some 0) with
  accessFlags := 1537
  interfaces := #[]
  cf := some (fileOf pool4 2 #[.nestMembers #[47, 59]] #[] 1537 66 #[] #[])
  fields := #[]
  methods := #[]
  instanceTypes := #[]
  staticTypes := #[]
  resolved := Array.replicate 131 none
  statics := none }

def pool5 : Array CpInfo := pool [(1, .class_ 2), (0, u "java/lang/constant/Constable"), (0, .class_ 4), (0, u "java/lang/Object")] 6

/-- java/lang/constant/Constable -/
def k5 : Class := { plain "java/lang/constant/Constable" (some 0) with
  accessFlags := 1537
  interfaces := #[]
  cf := some (fileOf pool5 1 #[] #[] 1537 3 #[] #[])
  fields := #[]
  methods := #[]
  instanceTypes := #[]
  staticTypes := #[]
  resolved := Array.replicate 11 none
  statics := none }

def pool6 : Array CpInfo := pool [(1, .class_ 2), (0, u "java/lang/constant/ConstantDesc"), (0, .class_ 4), (0, u "java/lang/Object")] 32

/-- java/lang/constant/ConstantDesc -/
def k6 : Class := { plain "java/lang/constant/ConstantDesc" (some 0) with
  accessFlags := 1537
  interfaces := #[]
  cf := some (fileOf pool6 1 #[] #[] 1537 3 #[] #[])
  fields := #[]
  methods := #[]
  instanceTypes := #[]
  staticTypes := #[]
  resolved := Array.replicate 37 none
  statics := none }

def pool7 : Array CpInfo := pool [(1, .methodref 2 3), (0, .class_ 4), (0, .nameAndType 5 6), (0, u "java/lang/Object"), (0, u "<init>"), (0, u "()V"), (0, .string 8), (0, u ""), (0, .fieldref 10 11), (0, .class_ 12), (0, .nameAndType 13 14), (0, u "java/lang/String"), (0, u "value"), (0, u "[B"), (0, .fieldref 10 16), (0, .nameAndType 17 18), (0, u "coder"), (0, u "B"), (2, u "hash"), (0, u "I"), (2, u "hashIsZero"), (0, u "Z"), (0, .methodref 10 28), (0, .nameAndType 5 29), (0, u "([CIILjava/lang/Void;)V"), (8, .fieldref 10 39), (0, .nameAndType 40 26), (0, u "COMPACT_STRINGS"), (1, .class_ 44), (1, u "java/lang/StringUTF16"), (0, u "compress"), (1, .methodref 42 48), (0, .nameAndType 49 50), (0, u "coderFromArrayLen"), (0, u "([BI)B"), (4, .class_ 57), (1, u "java/util/Arrays"), (2, .methodref 42 61), (0, .nameAndType 62 63), (0, u "newBytesFor"), (0, u "(I)[B"), (22, .fieldref 87 88), (0, .class_ 89), (0, .nameAndType 90 91), (0, u "sun/nio/cs/UTF_8"), (0, u "INSTANCE"), (0, u "Lsun/nio/cs/UTF_8;"), (1, .class_ 95), (1, u "java/lang/StringCoding"), (6, .methodref 55 103), (0, .nameAndType 104 105), (0, u "copyOf"), (0, u "([BI)[B"), (1, .class_ 109), (1, u "java/lang/StringLatin1"), (18, .methodref 93 129), (0, .nameAndType 130 131), (0, u "hasNegatives"), (0, u "([BII)Z"), (45, .methodref 42 178), (0, .nameAndType 45 179), (0, u "([CII)[B"), (72, .methodref 10 253), (0, .nameAndType 254 255), (0, u "encodeUTF8"), (0, u "(B[BZ)[B"), (23, .methodref 280 281), (0, .class_ 14), (0, .nameAndType 282 283), (0, u "clone"), (0, u "()Ljava/lang/Object;"), (33, u "encode"), (17, .methodref 10 336), (0, .nameAndType 17 337), (0, u "()B"), (194, u "getBytes"), (2, .methodref 10 536), (0, .nameAndType 317 537), (0, u "(Ljava/nio/charset/Charset;B[B)[B"), (3, .methodref 107 542), (0, .nameAndType 543 544), (0, u "equals"), (0, u "([B[B)Z"), (28, u "(Ljava/lang/Object;)Z"), (1, .class_ 576), (0, u "java/lang/CharSequence"), (22, u "CASE_INSENSITIVE_ORDER"), (0, u "Ljava/util/Comparator;"), (409, u "([C)V"), (90, u "serialPersistentFields"), (0, u "[Ljava/io/ObjectStreamField;"), (0, .class_ 1104), (0, u "java/lang/String$CaseInsensitiveComparator"), (1, .class_ 1107), (0, u "java/io/Serializable"), (0, .class_ 1109), (0, u "java/lang/Comparable"), (0, .class_ 1111), (0, u "java/lang/constant/Constable"), (0, .class_ 1113), (0, u "java/lang/constant/ConstantDesc"), (2, u "serialVersionUID"), (0, u "J"), (3, u "REPL"), (0, u "C"), (2, u "LATIN1"), (1, u "UTF16"), (117, u "(Ljava/nio/charset/Charset;)[B")] 205

def k7m0 : Method := { name := "<init>", desc := "()V", sig := { parameters := [], returnType := none }, accessFlags := 1, code := none }
def k7c1 : Code := { maxStack := 5, maxLocals := 2, code := jdk_42_method_3_code, exceptionTable := #[], attributes := #[] }
def k7m1 : Method := { name := "<init>", desc := "([C)V", sig := { parameters := [(.array .char)], returnType := none }, accessFlags := 1, code := some k7c1 }
def k7c2 : Code := { maxStack := 4, maxLocals := 3, code := jdk_42_method_18_code, exceptionTable := #[], attributes := #[] }
def k7m2 : Method := { name := "encode", desc := "(Ljava/nio/charset/Charset;B[B)[B", sig := { parameters := [(.object "java/nio/charset/Charset"), .byte, (.array .byte)], returnType := some (.array .byte) }, accessFlags := 10, code := some k7c2 }
def k7c3 : Code := { maxStack := 5, maxLocals := 9, code := jdk_42_method_46_code, exceptionTable := #[], attributes := #[] }
def k7m3 : Method := { name := "encodeUTF8", desc := "(B[BZ)[B", sig := { parameters := [.byte, (.array .byte), .boolean], returnType := some (.array .byte) }, accessFlags := 10, code := some k7c3 }
def k7c4 : Code := { maxStack := 3, maxLocals := 2, code := jdk_42_method_64_code, exceptionTable := #[], attributes := #[] }
def k7m4 : Method := { name := "getBytes", desc := "(Ljava/nio/charset/Charset;)[B", sig := { parameters := [(.object "java/nio/charset/Charset")], returnType := some (.array .byte) }, accessFlags := 1, code := some k7c4 }
def k7c5 : Code := { maxStack := 2, maxLocals := 3, code := jdk_42_method_66_code, exceptionTable := #[], attributes := #[] }
def k7m5 : Method := { name := "equals", desc := "(Ljava/lang/Object;)Z", sig := { parameters := [(.object "java/lang/Object")], returnType := some .boolean }, accessFlags := 1, code := some k7c5 }
def k7c6 : Code := { maxStack := 4, maxLocals := 6, code := jdk_42_method_149_code, exceptionTable := #[], attributes := #[] }
def k7m6 : Method := { name := "<init>", desc := "([CIILjava/lang/Void;)V", sig := { parameters := [(.array .char), .int, .int, (.object "java/lang/Void")], returnType := none }, accessFlags := 2, code := some k7c6 }
def k7c7 : Code := { maxStack := 1, maxLocals := 1, code := jdk_42_method_152_code, exceptionTable := #[], attributes := #[] }
def k7m7 : Method := { name := "coder", desc := "()B", sig := { parameters := [], returnType := some .byte }, accessFlags := 0, code := some k7c7 }
/-- java/lang/String -/
def k7 : Class := { plain "java/lang/String" (some 0) with
  accessFlags := 49
  interfaces := #[2, 3, 4, 5, 6]
  cf := some (fileOf pool7 10 #[.nestMembers #[1103]] #[{ accessFlags := 1, nameIndex := 5, descriptorIndex := 6, attributes := #[] }, { accessFlags := 1, nameIndex := 5, descriptorIndex := 1010, attributes := #[] }, { accessFlags := 10, nameIndex := 317, descriptorIndex := 537, attributes := #[] }, { accessFlags := 10, nameIndex := 254, descriptorIndex := 255, attributes := #[] }, { accessFlags := 1, nameIndex := 532, descriptorIndex := 1245, attributes := #[] }, { accessFlags := 1, nameIndex := 543, descriptorIndex := 573, attributes := #[] }, { accessFlags := 2, nameIndex := 5, descriptorIndex := 29, attributes := #[] }, { accessFlags := 0, nameIndex := 17, descriptorIndex := 337, attributes := #[] }] 49 2 #[1106, 1108, 575, 1110, 1112] #[{ accessFlags := 18, nameIndex := 13, descriptorIndex := 14, attributes := #[] }, { accessFlags := 18, nameIndex := 17, descriptorIndex := 18, attributes := #[] }, { accessFlags := 2, nameIndex := 21, descriptorIndex := 22, attributes := #[] }, { accessFlags := 2, nameIndex := 25, descriptorIndex := 26, attributes := #[] }, { accessFlags := 26, nameIndex := 1116, descriptorIndex := 1117, attributes := #[] }, { accessFlags := 24, nameIndex := 40, descriptorIndex := 26, attributes := #[] }, { accessFlags := 26, nameIndex := 1101, descriptorIndex := 1102, attributes := #[] }, { accessFlags := 26, nameIndex := 1121, descriptorIndex := 1122, attributes := #[] }, { accessFlags := 25, nameIndex := 599, descriptorIndex := 600, attributes := #[] }, { accessFlags := 24, nameIndex := 1125, descriptorIndex := 18, attributes := #[] }, { accessFlags := 24, nameIndex := 1127, descriptorIndex := 18, attributes := #[] }])
  fields := #[{ name := "value", type := (.array .byte), accessFlags := 18, slot := 0, constantValue := 0 }, { name := "coder", type := .byte, accessFlags := 18, slot := 1, constantValue := 0 }, { name := "hash", type := .int, accessFlags := 2, slot := 2, constantValue := 0 }, { name := "hashIsZero", type := .boolean, accessFlags := 2, slot := 3, constantValue := 0 }, { name := "serialVersionUID", type := .long, accessFlags := 26, slot := 0, constantValue := 0 }, { name := "COMPACT_STRINGS", type := .boolean, accessFlags := 24, slot := 1, constantValue := 0 }, { name := "serialPersistentFields", type := (.array (.object "java/io/ObjectStreamField")), accessFlags := 26, slot := 2, constantValue := 0 }, { name := "REPL", type := .char, accessFlags := 26, slot := 3, constantValue := 0 }, { name := "CASE_INSENSITIVE_ORDER", type := (.object "java/util/Comparator"), accessFlags := 25, slot := 4, constantValue := 0 }, { name := "LATIN1", type := .byte, accessFlags := 24, slot := 5, constantValue := 0 }, { name := "UTF16", type := .byte, accessFlags := 24, slot := 6, constantValue := 0 }]
  methods := #[k7m0, k7m1, k7m2, k7m3, k7m4, k7m5, k7m6, k7m7]
  instanceTypes := #[(.array .byte), .byte, .int, .boolean]
  staticTypes := #[.long, .boolean, (.array (.object "java/io/ObjectStreamField")), .char, (.object "java/util/Comparator"), .byte, .byte]
  resolved := Array.replicate 1451 none
  statics := some 0 }

def pool8 : Array CpInfo := pool [(1, .methodref 2 3), (0, .class_ 4), (0, .nameAndType 5 6), (0, u "java/lang/Object"), (0, u "<init>"), (0, u "()V"), (0, .string 8), (0, u "owner"), (0, .methodref 10 11), (0, .class_ 12), (0, .nameAndType 13 14), (0, u "java/util/Objects"), (0, u "requireNonNull"), (0, u "(Ljava/lang/Object;Ljava/lang/String;)Ljava/lang/Object;"), (0, .class_ 16), (0, u "java/lang/String"), (0, .fieldref 18 19), (0, .class_ 20), (0, .nameAndType 8 21), (0, u "com/example/lease/lease/OwnerCount"), (0, u "Ljava/lang/String;"), (0, .fieldref 23 24), (0, .class_ 25), (0, .nameAndType 26 27), (0, u "java/nio/charset/StandardCharsets"), (0, u "UTF_8"), (0, u "Ljava/nio/charset/Charset;"), (0, .methodref 15 29), (0, .nameAndType 30 31), (0, u "getBytes"), (0, u "(Ljava/nio/charset/Charset;)[B"), (0, .fieldref 18 33), (0, .nameAndType 34 35), (0, u "ownerUtf8"), (0, u "[B"), (0, .string 37), (0, u "status"), (0, .class_ 39), (0, u "com/example/lease/lease/PartitionStatus"), (0, .fieldref 18 41), (0, .nameAndType 37 42), (0, u "Lcom/example/lease/lease/PartitionStatus;"), (0, .fieldref 18 44), (0, .nameAndType 45 46), (0, u "count"), (0, u "J"), (0, .methodref 15 48), (0, .nameAndType 49 50), (0, u "equals"), (0, u "(Ljava/lang/Object;)Z"), (42, u "ORDER"), (0, u "Ljava/util/Comparator;"), (2, u "(Ljava/lang/String;Lcom/example/lease/lease/PartitionStatus;J)V")] 57

def k8c0 : Code := { maxStack := 3, maxLocals := 5, code := prog_22_method_1_code, exceptionTable := #[], attributes := #[] }
def k8m0 : Method := { name := "<init>", desc := "(Ljava/lang/String;Lcom/example/lease/lease/PartitionStatus;J)V", sig := { parameters := [(.object "java/lang/String"), (.object "com/example/lease/lease/PartitionStatus"), .long], returnType := none }, accessFlags := 0, code := some k8c0 }
def k8c1 : Code := { maxStack := 4, maxLocals := 3, code := prog_22_method_5_code, exceptionTable := #[], attributes := #[] }
def k8m1 : Method := { name := "equals", desc := "(Ljava/lang/Object;)Z", sig := { parameters := [(.object "java/lang/Object")], returnType := some .boolean }, accessFlags := 1, code := some k8c1 }
/-- com/example/lease/lease/OwnerCount -/
def k8 : Class := { plain "com/example/lease/lease/OwnerCount" (some 0) with
  accessFlags := 33
  interfaces := #[]
  cf := some (fileOf pool8 18 #[] #[{ accessFlags := 0, nameIndex := 5, descriptorIndex := 97, attributes := #[] }, { accessFlags := 1, nameIndex := 49, descriptorIndex := 50, attributes := #[] }] 33 2 #[] #[{ accessFlags := 24, nameIndex := 93, descriptorIndex := 94, attributes := #[] }, { accessFlags := 18, nameIndex := 8, descriptorIndex := 21, attributes := #[] }, { accessFlags := 18, nameIndex := 34, descriptorIndex := 35, attributes := #[] }, { accessFlags := 18, nameIndex := 37, descriptorIndex := 42, attributes := #[] }, { accessFlags := 18, nameIndex := 45, descriptorIndex := 46, attributes := #[] }])
  fields := #[{ name := "ORDER", type := (.object "java/util/Comparator"), accessFlags := 24, slot := 0, constantValue := 0 }, { name := "owner", type := (.object "java/lang/String"), accessFlags := 18, slot := 0, constantValue := 0 }, { name := "ownerUtf8", type := (.array .byte), accessFlags := 18, slot := 1, constantValue := 0 }, { name := "status", type := (.object "com/example/lease/lease/PartitionStatus"), accessFlags := 18, slot := 2, constantValue := 0 }, { name := "count", type := .long, accessFlags := 18, slot := 3, constantValue := 0 }]
  methods := #[k8m0, k8m1]
  instanceTypes := #[(.object "java/lang/String"), (.array .byte), (.object "com/example/lease/lease/PartitionStatus"), .long]
  staticTypes := #[(.object "java/util/Comparator")]
  resolved := Array.replicate 155 none
  statics := none }

def pool9 : Array CpInfo := pool [(2, .class_ 4), (1, u "java/lang/Enum"), (0, u "name"), (0, u "Ljava/lang/String;"), (2, u "ordinal"), (0, u "I"), (1, .class_ 14), (1, u "java/lang/Object"), (4, u "hash"), (86, .class_ 108), (1, u "java/lang/Enum$EnumDesc"), (2, .class_ 112), (0, u "java/lang/constant/Constable"), (0, .class_ 114), (0, u "java/lang/Comparable"), (0, .class_ 116), (0, u "java/io/Serializable")] 87

/-- java/lang/Enum -/
def k9 : Class := { plain "java/lang/Enum" (some 0) with
  accessFlags := 1057
  interfaces := #[5, 3, 2]
  cf := some (fileOf pool9 2 #[.nestMembers #[106]] #[] 1057 12 #[111, 113, 115] #[{ accessFlags := 18, nameIndex := 5, descriptorIndex := 6, attributes := #[] }, { accessFlags := 18, nameIndex := 9, descriptorIndex := 10, attributes := #[] }, { accessFlags := 2, nameIndex := 19, descriptorIndex := 10, attributes := #[] }])
  fields := #[{ name := "name", type := (.object "java/lang/String"), accessFlags := 18, slot := 0, constantValue := 0 }, { name := "ordinal", type := .int, accessFlags := 18, slot := 1, constantValue := 0 }, { name := "hash", type := .int, accessFlags := 2, slot := 2, constantValue := 0 }]
  methods := #[]
  instanceTypes := #[(.object "java/lang/String"), .int, .int]
  staticTypes := #[]
  resolved := Array.replicate 204 none
  statics := none }

def pool10 : Array CpInfo := pool [(1, .class_ 2), (0, u "com/example/lease/lease/PartitionStatus"), (2, u "PENDING"), (0, u "Lcom/example/lease/lease/PartitionStatus;"), (2, u "LEASED"), (2, u "COMPLETED"), (2, u "FAILED"), (2, u "$VALUES"), (0, u "[Lcom/example/lease/lease/PartitionStatus;"), (6, .class_ 28), (1, u "java/lang/Enum")] 26

/-- com/example/lease/lease/PartitionStatus -/
def k10 : Class := { plain "com/example/lease/lease/PartitionStatus" (some 9) with
  accessFlags := 16433
  interfaces := #[]
  cf := some (fileOf pool10 1 #[] #[] 16433 26 #[] #[{ accessFlags := 16409, nameIndex := 5, descriptorIndex := 6, attributes := #[] }, { accessFlags := 16409, nameIndex := 9, descriptorIndex := 6, attributes := #[] }, { accessFlags := 16409, nameIndex := 12, descriptorIndex := 6, attributes := #[] }, { accessFlags := 16409, nameIndex := 15, descriptorIndex := 6, attributes := #[] }, { accessFlags := 4122, nameIndex := 18, descriptorIndex := 19, attributes := #[] }])
  fields := #[{ name := "PENDING", type := (.object "com/example/lease/lease/PartitionStatus"), accessFlags := 16409, slot := 0, constantValue := 0 }, { name := "LEASED", type := (.object "com/example/lease/lease/PartitionStatus"), accessFlags := 16409, slot := 1, constantValue := 0 }, { name := "COMPLETED", type := (.object "com/example/lease/lease/PartitionStatus"), accessFlags := 16409, slot := 2, constantValue := 0 }, { name := "FAILED", type := (.object "com/example/lease/lease/PartitionStatus"), accessFlags := 16409, slot := 3, constantValue := 0 }, { name := "$VALUES", type := (.array (.object "com/example/lease/lease/PartitionStatus")), accessFlags := 4122, slot := 4, constantValue := 0 }]
  methods := #[]
  instanceTypes := #[(.object "java/lang/String"), .int, .int]
  staticTypes := #[(.object "com/example/lease/lease/PartitionStatus"), (.object "com/example/lease/lease/PartitionStatus"), (.object "com/example/lease/lease/PartitionStatus"), (.object "com/example/lease/lease/PartitionStatus"), (.array (.object "com/example/lease/lease/PartitionStatus"))]
  resolved := Array.replicate 55 none
  statics := some 1 }

def pool11 : Array CpInfo := pool [(2, .class_ 4), (1, u "java/lang/Object"), (0, u "<init>"), (0, u "()V"), (35, .class_ 44), (1, u "java/util/Objects"), (0, u "requireNonNull"), (48, u "(Ljava/lang/Object;Ljava/lang/String;)Ljava/lang/Object;")] 89

def k11m0 : Method := { name := "<init>", desc := "()V", sig := { parameters := [], returnType := none }, accessFlags := 2, code := none }
def k11c1 : Code := { maxStack := 3, maxLocals := 2, code := jdk_31_method_11_code, exceptionTable := #[], attributes := #[] }
def k11m1 : Method := { name := "requireNonNull", desc := "(Ljava/lang/Object;Ljava/lang/String;)Ljava/lang/Object;", sig := { parameters := [(.object "java/lang/Object"), (.object "java/lang/String")], returnType := some (.object "java/lang/Object") }, accessFlags := 9, code := some k11c1 }
/-- java/util/Objects -/
def k11 : Class := { plain "java/util/Objects" (some 0) with
  accessFlags := 49
  interfaces := #[]
  cf := some (fileOf pool11 42 #[] #[{ accessFlags := 2, nameIndex := 5, descriptorIndex := 6, attributes := #[] }, { accessFlags := 9, nameIndex := 45, descriptorIndex := 94, attributes := #[] }] 49 2 #[] #[])
  fields := #[]
  methods := #[k11m0, k11m1]
  instanceTypes := #[]
  staticTypes := #[]
  resolved := Array.replicate 184 none
  statics := none }

def pool12 : Array CpInfo := pool [(2, .class_ 4), (1, u "java/lang/Object"), (0, u "<init>"), (0, u "()V"), (14, .class_ 23), (1, u "java/nio/charset/StandardCharsets"), (0, u "US_ASCII"), (0, u "Ljava/nio/charset/Charset;"), (7, u "ISO_8859_1"), (7, u "UTF_8"), (5, u "UTF_16BE"), (5, u "UTF_16LE"), (5, u "UTF_16")] 8

def k12m0 : Method := { name := "<init>", desc := "()V", sig := { parameters := [], returnType := none }, accessFlags := 2, code := none }
/-- java/nio/charset/StandardCharsets -/
def k12 : Class := { plain "java/nio/charset/StandardCharsets" (some 0) with
  accessFlags := 49
  interfaces := #[]
  cf := some (fileOf pool12 21 #[] #[{ accessFlags := 2, nameIndex := 5, descriptorIndex := 6, attributes := #[] }] 49 2 #[] #[{ accessFlags := 25, nameIndex := 24, descriptorIndex := 25, attributes := #[] }, { accessFlags := 25, nameIndex := 33, descriptorIndex := 25, attributes := #[] }, { accessFlags := 25, nameIndex := 41, descriptorIndex := 25, attributes := #[] }, { accessFlags := 25, nameIndex := 47, descriptorIndex := 25, attributes := #[] }, { accessFlags := 25, nameIndex := 53, descriptorIndex := 25, attributes := #[] }, { accessFlags := 25, nameIndex := 59, descriptorIndex := 25, attributes := #[] }])
  fields := #[{ name := "US_ASCII", type := (.object "java/nio/charset/Charset"), accessFlags := 25, slot := 0, constantValue := 0 }, { name := "ISO_8859_1", type := (.object "java/nio/charset/Charset"), accessFlags := 25, slot := 1, constantValue := 0 }, { name := "UTF_8", type := (.object "java/nio/charset/Charset"), accessFlags := 25, slot := 2, constantValue := 0 }, { name := "UTF_16BE", type := (.object "java/nio/charset/Charset"), accessFlags := 25, slot := 3, constantValue := 0 }, { name := "UTF_16LE", type := (.object "java/nio/charset/Charset"), accessFlags := 25, slot := 4, constantValue := 0 }, { name := "UTF_16", type := (.object "java/nio/charset/Charset"), accessFlags := 25, slot := 5, constantValue := 0 }]
  methods := #[k12m0]
  instanceTypes := #[]
  staticTypes := #[(.object "java/nio/charset/Charset"), (.object "java/nio/charset/Charset"), (.object "java/nio/charset/Charset"), (.object "java/nio/charset/Charset"), (.object "java/nio/charset/Charset"), (.object "java/nio/charset/Charset")]
  resolved := Array.replicate 68 none
  statics := some 2 }

def pool13 : Array CpInfo := pool [(18, .class_ 20), (1, u "java/nio/charset/Charset"), (0, u "cache1"), (0, u "[Ljava/lang/Object;"), (2, u "cache2"), (0, .class_ 27), (0, u "java/lang/Object"), (0, .class_ 29), (0, u "java/nio/charset/Charset$1"), (4, .class_ 36), (1, u "java/nio/charset/Charset$ThreadTrackHolder"), (21, .class_ 59), (0, u "java/nio/charset/Charset$2"), (11, .class_ 73), (1, u "java/nio/charset/Charset$ExtendedProviderHolder"), (22, u "standardProvider"), (0, u "Ljava/nio/charset/spi/CharsetProvider;"), (29, u "name"), (7, .class_ 136), (0, u "java/nio/charset/Charset$3"), (5, u "defaultCharset"), (0, u "Ljava/nio/charset/Charset;"), (14, u "zeroAliases"), (0, u "[Ljava/lang/String;"), (29, u "Ljava/lang/String;"), (2, u "aliases"), (2, u "aliasSet"), (0, u "Ljava/util/Set;"), (82, .class_ 280), (0, u "java/lang/Comparable"), (84, .class_ 366), (0, u "java/nio/charset/Charset$ExtendedProviderHolder$1")] 3

/-- java/nio/charset/Charset -/
def k13 : Class := { plain "java/nio/charset/Charset" (some 0) with
  accessFlags := 1057
  interfaces := #[3]
  cf := some (fileOf pool13 18 #[.nestMembers #[71, 365, 34, 135, 58, 28]] #[] 1057 26 #[279] #[{ accessFlags := 26, nameIndex := 96, descriptorIndex := 97, attributes := #[] }, { accessFlags := 26, nameIndex := 158, descriptorIndex := 159, attributes := #[] }, { accessFlags := 74, nameIndex := 21, descriptorIndex := 22, attributes := #[] }, { accessFlags := 74, nameIndex := 25, descriptorIndex := 22, attributes := #[] }, { accessFlags := 10, nameIndex := 142, descriptorIndex := 143, attributes := #[] }, { accessFlags := 18, nameIndex := 127, descriptorIndex := 189, attributes := #[] }, { accessFlags := 18, nameIndex := 192, descriptorIndex := 159, attributes := #[] }, { accessFlags := 2, nameIndex := 195, descriptorIndex := 196, attributes := #[] }])
  fields := #[{ name := "standardProvider", type := (.object "java/nio/charset/spi/CharsetProvider"), accessFlags := 26, slot := 0, constantValue := 0 }, { name := "zeroAliases", type := (.array (.object "java/lang/String")), accessFlags := 26, slot := 1, constantValue := 0 }, { name := "cache1", type := (.array (.object "java/lang/Object")), accessFlags := 74, slot := 2, constantValue := 0 }, { name := "cache2", type := (.array (.object "java/lang/Object")), accessFlags := 74, slot := 3, constantValue := 0 }, { name := "defaultCharset", type := (.object "java/nio/charset/Charset"), accessFlags := 10, slot := 4, constantValue := 0 }, { name := "name", type := (.object "java/lang/String"), accessFlags := 18, slot := 0, constantValue := 0 }, { name := "aliases", type := (.array (.object "java/lang/String")), accessFlags := 18, slot := 1, constantValue := 0 }, { name := "aliasSet", type := (.object "java/util/Set"), accessFlags := 2, slot := 2, constantValue := 0 }]
  methods := #[]
  instanceTypes := #[(.object "java/lang/String"), (.array (.object "java/lang/String")), (.object "java/util/Set")]
  staticTypes := #[(.object "java/nio/charset/spi/CharsetProvider"), (.array (.object "java/lang/String")), (.array (.object "java/lang/Object")), (.array (.object "java/lang/Object")), (.object "java/nio/charset/Charset")]
  resolved := Array.replicate 370 none
  statics := none }

def pool14 : Array CpInfo := pool [(1, .class_ 2), (0, u "sun/nio/cs/HistoricallyNamedCharset"), (0, .class_ 4), (0, u "java/lang/Object")] 4

/-- sun/nio/cs/HistoricallyNamedCharset -/
def k14 : Class := { plain "sun/nio/cs/HistoricallyNamedCharset" (some 0) with
  accessFlags := 1537
  interfaces := #[]
  cf := some (fileOf pool14 1 #[] #[] 1537 3 #[] #[])
  fields := #[]
  methods := #[]
  instanceTypes := #[]
  staticTypes := #[]
  resolved := Array.replicate 9 none
  statics := none }

def pool15 : Array CpInfo := pool [(2, .class_ 4), (1, u "java/nio/charset/Charset"), (130, .class_ 136), (0, u "sun/nio/cs/Unicode"), (0, .class_ 138), (0, u "sun/nio/cs/HistoricallyNamedCharset")] 15

/-- sun/nio/cs/Unicode -/
def k15 : Class := { plain "sun/nio/cs/Unicode" (some 13) with
  accessFlags := 1056
  interfaces := #[14]
  cf := some (fileOf pool15 135 #[] #[] 1056 2 #[137] #[])
  fields := #[]
  methods := #[]
  instanceTypes := #[(.object "java/lang/String"), (.array (.object "java/lang/String")), (.object "java/util/Set")]
  staticTypes := #[]
  resolved := Array.replicate 154 none
  statics := none }

def pool16 : Array CpInfo := pool [(10, .class_ 12), (1, u "sun/nio/cs/Unicode"), (0, u "<init>"), (3, .class_ 18), (0, u "sun/nio/cs/UTF_8$Decoder"), (3, .class_ 23), (0, u "sun/nio/cs/UTF_8$Encoder"), (15, .class_ 40), (0, u "sun/nio/cs/UTF_8"), (2, u "()V"), (2, u "INSTANCE"), (0, u "Lsun/nio/cs/UTF_8;"), (8, u "JLA"), (0, u "Ljdk/internal/access/JavaLangAccess;")] 26

def k16m0 : Method := { name := "<init>", desc := "()V", sig := { parameters := [], returnType := none }, accessFlags := 1, code := none }
/-- sun/nio/cs/UTF_8 -/
def k16 : Class := { plain "sun/nio/cs/UTF_8" (some 15) with
  accessFlags := 49
  interfaces := #[]
  cf := some (fileOf pool16 39 #[.nestMembers #[22, 17]] #[{ accessFlags := 1, nameIndex := 13, descriptorIndex := 43, attributes := #[] }] 49 10 #[] #[{ accessFlags := 25, nameIndex := 46, descriptorIndex := 47, attributes := #[] }, { accessFlags := 26, nameIndex := 56, descriptorIndex := 57, attributes := #[] }])
  fields := #[{ name := "INSTANCE", type := (.object "sun/nio/cs/UTF_8"), accessFlags := 25, slot := 0, constantValue := 0 }, { name := "JLA", type := (.object "jdk/internal/access/JavaLangAccess"), accessFlags := 26, slot := 1, constantValue := 0 }]
  methods := #[k16m0]
  instanceTypes := #[(.object "java/lang/String"), (.array (.object "java/lang/String")), (.object "java/util/Set")]
  staticTypes := #[(.object "sun/nio/cs/UTF_8"), (.object "jdk/internal/access/JavaLangAccess")]
  resolved := Array.replicate 84 none
  statics := some 3 }

def pool17 : Array CpInfo := pool [(2, .class_ 4), (1, u "java/lang/Object"), (0, u "<init>"), (0, u "()V"), (0, .methodref 8 9), (0, .class_ 10), (0, .nameAndType 11 12), (0, u "java/lang/StringCoding"), (0, u "countPositives"), (0, u "([BII)I"), (11, u "hasNegatives"), (0, u "([BII)Z")] 23

def k17m0 : Method := { name := "<init>", desc := "()V", sig := { parameters := [], returnType := none }, accessFlags := 2, code := none }
def k17c1 : Code := { maxStack := 3, maxLocals := 3, code := jdk_123_method_2_code, exceptionTable := #[], attributes := #[] }
def k17m1 : Method := { name := "hasNegatives", desc := "([BII)Z", sig := { parameters := [(.array .byte), .int, .int], returnType := some .boolean }, accessFlags := 9, code := some k17c1 }
def k17c2 : Code := { maxStack := 2, maxLocals := 5, code := jdk_123_method_3_code, exceptionTable := #[], attributes := #[] }
def k17m2 : Method := { name := "countPositives", desc := "([BII)I", sig := { parameters := [(.array .byte), .int, .int], returnType := some .int }, accessFlags := 9, code := some k17c2 }
/-- java/lang/StringCoding -/
def k17 : Class := { plain "java/lang/StringCoding" (some 0) with
  accessFlags := 32
  interfaces := #[]
  cf := some (fileOf pool17 8 #[] #[{ accessFlags := 2, nameIndex := 5, descriptorIndex := 6, attributes := #[] }, { accessFlags := 9, nameIndex := 24, descriptorIndex := 25, attributes := #[] }, { accessFlags := 9, nameIndex := 11, descriptorIndex := 12, attributes := #[] }] 32 2 #[] #[])
  fields := #[]
  methods := #[k17m0, k17m1, k17m2]
  instanceTypes := #[]
  staticTypes := #[]
  resolved := Array.replicate 49 none
  statics := none }

def pool18 : Array CpInfo := pool [(1, .class_ 2), (0, u "java/lang/Cloneable"), (0, .class_ 4), (0, u "java/lang/Object")] 2

/-- java/lang/Cloneable -/
def k18 : Class := { plain "java/lang/Cloneable" (some 0) with
  accessFlags := 1537
  interfaces := #[]
  cf := some (fileOf pool18 1 #[] #[] 1537 3 #[] #[])
  fields := #[]
  methods := #[]
  instanceTypes := #[]
  staticTypes := #[]
  resolved := Array.replicate 7 none
  statics := none }

def pool19 : Array CpInfo := pool [(4, .class_ 6), (1, u "java/lang/Object"), (0, u "<init>"), (0, u "()V"), (5, .class_ 16), (1, u "java/lang/StringLatin1"), (104, u "$assertionsDisabled"), (0, u "Z"), (98, .class_ 223), (1, u "java/lang/StringLatin1$LinesSpliterator"), (57, u "equals"), (0, u "([B[B)Z"), (107, .class_ 391), (0, u "java/lang/StringLatin1$CharsSpliterator")] 3

def k19m0 : Method := { name := "<init>", desc := "()V", sig := { parameters := [], returnType := none }, accessFlags := 0, code := none }
def k19c1 : Code := { maxStack := 3, maxLocals := 3, code := jdk_43_method_13_code, exceptionTable := #[], attributes := #[] }
def k19m1 : Method := { name := "equals", desc := "([B[B)Z", sig := { parameters := [(.array .byte), (.array .byte)], returnType := some .boolean }, accessFlags := 9, code := some k19c1 }
/-- java/lang/StringLatin1 -/
def k19 : Class := { plain "java/lang/StringLatin1" (some 0) with
  accessFlags := 48
  interfaces := #[]
  cf := some (fileOf pool19 14 #[.nestMembers #[390, 221]] #[{ accessFlags := 0, nameIndex := 7, descriptorIndex := 8, attributes := #[] }, { accessFlags := 9, nameIndex := 281, descriptorIndex := 282, attributes := #[] }] 48 4 #[] #[{ accessFlags := 4120, nameIndex := 121, descriptorIndex := 122, attributes := #[] }])
  fields := #[{ name := "$assertionsDisabled", type := .boolean, accessFlags := 4120, slot := 0, constantValue := 0 }]
  methods := #[k19m0, k19m1]
  instanceTypes := #[]
  staticTypes := #[.boolean]
  resolved := Array.replicate 395 none
  statics := none }

def pool20 : Array CpInfo := pool [(6, .class_ 8), (1, u "java/lang/Object"), (0, u "<init>"), (0, u "()V"), (0, .methodref 12 13), (0, .class_ 14), (0, .nameAndType 15 16), (0, u "java/lang/StringUTF16"), (0, u "newBytesLength"), (0, u "(I)I"), (3, .integer 1073741823), (25, u "$assertionsDisabled"), (0, u "Z"), (13, u "HI_BYTE_SHIFT"), (0, u "I"), (2, u "LO_BYTE_SHIFT"), (43, u "newBytesFor"), (0, u "(I)[B"), (4, .methodref 12 116), (0, .nameAndType 117 118), (0, u "compress"), (0, u "([CI[BII)I"), (3, u "([CII)[B"), (138, u "coderFromArrayLen"), (0, u "([BI)B"), (106, .class_ 371), (1, u "java/lang/StringUTF16$LinesSpliterator"), (58, u "MAX_LENGTH"), (196, .class_ 628), (0, u "java/lang/StringUTF16$CodePointsSpliterator"), (0, .class_ 630), (0, u "java/lang/StringUTF16$CharsSpliterator")] 4

def k20m0 : Method := { name := "<init>", desc := "()V", sig := { parameters := [], returnType := none }, accessFlags := 0, code := none }
def k20c1 : Code := { maxStack := 1, maxLocals := 1, code := jdk_52_method_2_code, exceptionTable := #[], attributes := #[] }
def k20m1 : Method := { name := "newBytesFor", desc := "(I)[B", sig := { parameters := [.int], returnType := some (.array .byte) }, accessFlags := 9, code := some k20c1 }
def k20c2 : Code := { maxStack := 4, maxLocals := 1, code := jdk_52_method_3_code, exceptionTable := #[], attributes := #[] }
def k20m2 : Method := { name := "newBytesLength", desc := "(I)I", sig := { parameters := [.int], returnType := some .int }, accessFlags := 9, code := some k20c2 }
def k20c3 : Code := { maxStack := 2, maxLocals := 2, code := jdk_52_method_15_code, exceptionTable := #[], attributes := #[] }
def k20m3 : Method := { name := "coderFromArrayLen", desc := "([BI)B", sig := { parameters := [(.array .byte), .int], returnType := some .byte }, accessFlags := 8, code := some k20c3 }
def k20c4 : Code := { maxStack := 5, maxLocals := 6, code := jdk_52_method_16_code, exceptionTable := #[], attributes := #[] }
def k20m4 : Method := { name := "compress", desc := "([CII)[B", sig := { parameters := [(.array .char), .int, .int], returnType := some (.array .byte) }, accessFlags := 9, code := some k20c4 }
def k20c5 : Code := { maxStack := 3, maxLocals := 7, code := jdk_52_method_21_code, exceptionTable := #[], attributes := #[] }
def k20m5 : Method := { name := "compress", desc := "([CI[BII)I", sig := { parameters := [(.array .char), .int, (.array .byte), .int, .int], returnType := some .int }, accessFlags := 9, code := some k20c5 }
/-- java/lang/StringUTF16 -/
def k20 : Class := { plain "java/lang/StringUTF16" (some 0) with
  accessFlags := 48
  interfaces := #[]
  cf := some (fileOf pool20 12 #[.nestMembers #[627, 629, 369]] #[{ accessFlags := 0, nameIndex := 9, descriptorIndex := 10, attributes := #[] }, { accessFlags := 9, nameIndex := 109, descriptorIndex := 110, attributes := #[] }, { accessFlags := 9, nameIndex := 15, descriptorIndex := 16, attributes := #[] }, { accessFlags := 8, nameIndex := 261, descriptorIndex := 262, attributes := #[] }, { accessFlags := 9, nameIndex := 117, descriptorIndex := 122, attributes := #[] }, { accessFlags := 9, nameIndex := 117, descriptorIndex := 118, attributes := #[] }] 48 6 #[] #[{ accessFlags := 26, nameIndex := 61, descriptorIndex := 62, attributes := #[] }, { accessFlags := 26, nameIndex := 65, descriptorIndex := 62, attributes := #[] }, { accessFlags := 24, nameIndex := 430, descriptorIndex := 62, attributes := #[] }, { accessFlags := 4120, nameIndex := 46, descriptorIndex := 47, attributes := #[] }])
  fields := #[{ name := "HI_BYTE_SHIFT", type := .int, accessFlags := 26, slot := 0, constantValue := 0 }, { name := "LO_BYTE_SHIFT", type := .int, accessFlags := 26, slot := 1, constantValue := 0 }, { name := "MAX_LENGTH", type := .int, accessFlags := 24, slot := 2, constantValue := 0 }, { name := "$assertionsDisabled", type := .boolean, accessFlags := 4120, slot := 3, constantValue := 0 }]
  methods := #[k20m0, k20m1, k20m2, k20m3, k20m4, k20m5]
  instanceTypes := #[]
  staticTypes := #[.int, .int, .int, .boolean]
  resolved := Array.replicate 635 none
  statics := none }

def pool21 : Array CpInfo := pool [(2, .class_ 4), (1, u "java/lang/Object"), (0, u "<init>"), (0, u "()V"), (7, .class_ 16), (1, u "java/util/Arrays"), (57, .class_ 76), (1, u "java/util/Arrays$NaturalOrder"), (36, .class_ 115), (1, u "java/util/Arrays$LegacyMergeSort"), (1, u "Z"), (32, .methodref 151 152), (0, .class_ 153), (0, .nameAndType 154 155), (0, u "java/lang/System"), (0, u "arraycopy"), (0, u "(Ljava/lang/Object;ILjava/lang/Object;II)V"), (146, u "copyOf"), (1, .methodref 305 306), (0, .class_ 307), (0, .nameAndType 308 309), (0, u "java/lang/Math"), (0, u "min"), (0, u "(II)I"), (65, .class_ 376), (0, u "java/util/Arrays$ArrayList"), (68, u "$assertionsDisabled"), (269, u "MIN_ARRAY_SORT_GRAN"), (0, u "I"), (2, u "INSERTIONSORT_THRESHOLD"), (149, u "([BI)[B"), (105, .class_ 976), (0, u "java/util/Arrays$ArrayItr")] 52

def k21m0 : Method := { name := "<init>", desc := "()V", sig := { parameters := [], returnType := none }, accessFlags := 2, code := none }
def k21c1 : Code := { maxStack := 6, maxLocals := 3, code := jdk_65_method_121_code, exceptionTable := #[], attributes := #[] }
def k21m1 : Method := { name := "copyOf", desc := "([BI)[B", sig := { parameters := [(.array .byte), .int], returnType := some (.array .byte) }, accessFlags := 9, code := some k21c1 }
/-- java/util/Arrays -/
def k21 : Class := { plain "java/util/Arrays" (some 0) with
  accessFlags := 49
  interfaces := #[]
  cf := some (fileOf pool21 14 #[.nestMembers #[975, 375, 113, 74]] #[{ accessFlags := 2, nameIndex := 5, descriptorIndex := 6, attributes := #[] }, { accessFlags := 9, nameIndex := 302, descriptorIndex := 869, attributes := #[] }] 49 2 #[] #[{ accessFlags := 26, nameIndex := 715, descriptorIndex := 716, attributes := #[] }, { accessFlags := 26, nameIndex := 719, descriptorIndex := 716, attributes := #[] }, { accessFlags := 4120, nameIndex := 445, descriptorIndex := 117, attributes := #[] }])
  fields := #[{ name := "MIN_ARRAY_SORT_GRAN", type := .int, accessFlags := 26, slot := 0, constantValue := 0 }, { name := "INSERTIONSORT_THRESHOLD", type := .int, accessFlags := 26, slot := 1, constantValue := 0 }, { name := "$assertionsDisabled", type := .boolean, accessFlags := 4120, slot := 2, constantValue := 0 }]
  methods := #[k21m0, k21m1]
  instanceTypes := #[]
  staticTypes := #[.int, .int, .boolean]
  resolved := Array.replicate 1029 none
  statics := none }

def pool22 : Array CpInfo := pool [(1, .class_ 2), (0, u "java/lang/Math"), (1, .class_ 6), (1, u "java/lang/Object"), (0, u "<init>"), (0, u "()V"), (89, .class_ 100), (1, u "java/lang/Math$RandomNumberGeneratorHolder"), (71, u "negativeZeroFloatBits"), (0, u "J"), (2, u "negativeZeroDoubleBits"), (24, u "min"), (43, u "$assertionsDisabled"), (0, u "Z"), (88, u "(II)I"), (2, u "twoToTheDoubleScaleDown"), (0, u "D"), (4, u "twoToTheDoubleScaleUp"), (9, u "E"), (3, u "PI"), (2, u "TAU"), (2, u "DEGREES_TO_RADIANS"), (0, u "RADIANS_TO_DEGREES")] 94

def k22m0 : Method := { name := "<init>", desc := "()V", sig := { parameters := [], returnType := none }, accessFlags := 2, code := none }
def k22c1 : Code := { maxStack := 2, maxLocals := 2, code := jdk_29_method_69_code, exceptionTable := #[], attributes := #[] }
def k22m1 : Method := { name := "min", desc := "(II)I", sig := { parameters := [.int, .int], returnType := some .int }, accessFlags := 9, code := some k22c1 }
/-- java/lang/Math -/
def k22 : Class := { plain "java/lang/Math" (some 0) with
  accessFlags := 49
  interfaces := #[]
  cf := some (fileOf pool22 1 #[.nestMembers #[98]] #[{ accessFlags := 2, nameIndex := 7, descriptorIndex := 8, attributes := #[] }, { accessFlags := 9, nameIndex := 201, descriptorIndex := 335, attributes := #[] }] 49 4 #[] #[{ accessFlags := 25, nameIndex := 354, descriptorIndex := 339, attributes := #[] }, { accessFlags := 25, nameIndex := 358, descriptorIndex := 339, attributes := #[] }, { accessFlags := 25, nameIndex := 361, descriptorIndex := 339, attributes := #[] }, { accessFlags := 26, nameIndex := 364, descriptorIndex := 339, attributes := #[] }, { accessFlags := 26, nameIndex := 365, descriptorIndex := 339, attributes := #[] }, { accessFlags := 26, nameIndex := 172, descriptorIndex := 173, attributes := #[] }, { accessFlags := 26, nameIndex := 176, descriptorIndex := 173, attributes := #[] }, { accessFlags := 8, nameIndex := 344, descriptorIndex := 339, attributes := #[] }, { accessFlags := 8, nameIndex := 338, descriptorIndex := 339, attributes := #[] }, { accessFlags := 4120, nameIndex := 245, descriptorIndex := 246, attributes := #[] }])
  fields := #[{ name := "E", type := .double, accessFlags := 25, slot := 0, constantValue := 0 }, { name := "PI", type := .double, accessFlags := 25, slot := 1, constantValue := 0 }, { name := "TAU", type := .double, accessFlags := 25, slot := 2, constantValue := 0 }, { name := "DEGREES_TO_RADIANS", type := .double, accessFlags := 26, slot := 3, constantValue := 0 }, { name := "RADIANS_TO_DEGREES", type := .double, accessFlags := 26, slot := 4, constantValue := 0 }, { name := "negativeZeroFloatBits", type := .long, accessFlags := 26, slot := 5, constantValue := 0 }, { name := "negativeZeroDoubleBits", type := .long, accessFlags := 26, slot := 6, constantValue := 0 }, { name := "twoToTheDoubleScaleUp", type := .double, accessFlags := 8, slot := 7, constantValue := 0 }, { name := "twoToTheDoubleScaleDown", type := .double, accessFlags := 8, slot := 8, constantValue := 0 }, { name := "$assertionsDisabled", type := .boolean, accessFlags := 4120, slot := 9, constantValue := 0 }]
  methods := #[k22m0, k22m1]
  instanceTypes := #[]
  staticTypes := #[.double, .double, .double, .double, .double, .long, .long, .double, .double, .boolean]
  resolved := Array.replicate 460 none
  statics := none }

def pool23 : Array CpInfo := pool [(2, .class_ 4), (1, u "java/lang/Object"), (0, u "<init>"), (0, u "()V"), (1, .class_ 10), (1, u "java/lang/System"), (0, u "allowSecurityManager"), (0, u "I"), (16, u "cons"), (0, u "Ljava/io/Console;"), (77, .class_ 110), (1, u "java/lang/System$CallersHolder"), (43, u "initialErrStream"), (0, u "Ljava/io/PrintStream;"), (19, u "security"), (0, u "Ljava/lang/SecurityManager;"), (31, .class_ 209), (0, u "java/lang/System$1"), (7, u "props"), (0, u "Ljava/util/Properties;"), (2, u "lineSeparator"), (0, u "Ljava/lang/String;"), (96, .class_ 321), (1, u "java/lang/System$LoggerFinder"), (5, .class_ 328), (0, u "java/lang/System$Logger"), (67, u "err"), (2, u "out"), (91, u "notSupportedJnuEncoding"), (15, u "in"), (17, u "initialIn"), (0, u "Ljava/io/InputStream;"), (35, u "bootLayer"), (0, u "Ljava/lang/ModuleLayer;"), (99, .class_ 664), (0, u "java/lang/System$2"), (9, u "NEVER"), (2, u "MAYBE"), (49, u "arraycopy"), (0, u "(Ljava/lang/Object;ILjava/lang/Object;II)V"), (72, .class_ 802), (0, u "java/lang/System$Logger$Level")] 31

def k23m0 : Method := { name := "<init>", desc := "()V", sig := { parameters := [], returnType := none }, accessFlags := 2, code := none }
def k23m1 : Method := { name := "arraycopy", desc := "(Ljava/lang/Object;ILjava/lang/Object;II)V", sig := { parameters := [(.object "java/lang/Object"), .int, (.object "java/lang/Object"), .int, .int], returnType := none }, accessFlags := 265, code := none }
/-- java/lang/System -/
def k23 : Class := { plain "java/lang/System" (some 0) with
  accessFlags := 49
  interfaces := #[]
  cf := some (fileOf pool23 8 #[.nestMembers #[319, 327, 801, 108, 663, 208]] #[{ accessFlags := 2, nameIndex := 5, descriptorIndex := 6, attributes := #[] }, { accessFlags := 265, nameIndex := 727, descriptorIndex := 728, attributes := #[] }] 49 2 #[] #[{ accessFlags := 25, nameIndex := 507, descriptorIndex := 526, attributes := #[] }, { accessFlags := 25, nameIndex := 399, descriptorIndex := 155, attributes := #[] }, { accessFlags := 25, nameIndex := 396, descriptorIndex := 155, attributes := #[] }, { accessFlags := 10, nameIndex := 525, descriptorIndex := 526, attributes := #[] }, { accessFlags := 26, nameIndex := 674, descriptorIndex := 12, attributes := #[] }, { accessFlags := 26, nameIndex := 677, descriptorIndex := 12, attributes := #[] }, { accessFlags := 10, nameIndex := 11, descriptorIndex := 12, attributes := #[] }, { accessFlags := 74, nameIndex := 175, descriptorIndex := 176, attributes := #[] }, { accessFlags := 10, nameIndex := 491, descriptorIndex := 222, attributes := #[] }, { accessFlags := 74, nameIndex := 29, descriptorIndex := 30, attributes := #[] }, { accessFlags := 74, nameIndex := 154, descriptorIndex := 155, attributes := #[] }, { accessFlags := 10, nameIndex := 217, descriptorIndex := 218, attributes := #[] }, { accessFlags := 10, nameIndex := 221, descriptorIndex := 222, attributes := #[] }, { accessFlags := 8, nameIndex := 562, descriptorIndex := 563, attributes := #[] }])
  fields := #[{ name := "in", type := (.object "java/io/InputStream"), accessFlags := 25, slot := 0, constantValue := 0 }, { name := "out", type := (.object "java/io/PrintStream"), accessFlags := 25, slot := 1, constantValue := 0 }, { name := "err", type := (.object "java/io/PrintStream"), accessFlags := 25, slot := 2, constantValue := 0 }, { name := "initialIn", type := (.object "java/io/InputStream"), accessFlags := 10, slot := 3, constantValue := 0 }, { name := "NEVER", type := .int, accessFlags := 26, slot := 4, constantValue := 0 }, { name := "MAYBE", type := .int, accessFlags := 26, slot := 5, constantValue := 0 }, { name := "allowSecurityManager", type := .int, accessFlags := 10, slot := 6, constantValue := 0 }, { name := "security", type := (.object "java/lang/SecurityManager"), accessFlags := 74, slot := 7, constantValue := 0 }, { name := "notSupportedJnuEncoding", type := (.object "java/lang/String"), accessFlags := 10, slot := 8, constantValue := 0 }, { name := "cons", type := (.object "java/io/Console"), accessFlags := 74, slot := 9, constantValue := 0 }, { name := "initialErrStream", type := (.object "java/io/PrintStream"), accessFlags := 74, slot := 10, constantValue := 0 }, { name := "props", type := (.object "java/util/Properties"), accessFlags := 10, slot := 11, constantValue := 0 }, { name := "lineSeparator", type := (.object "java/lang/String"), accessFlags := 10, slot := 12, constantValue := 0 }, { name := "bootLayer", type := (.object "java/lang/ModuleLayer"), accessFlags := 8, slot := 13, constantValue := 0 }]
  methods := #[k23m0, k23m1]
  instanceTypes := #[]
  staticTypes := #[(.object "java/io/InputStream"), (.object "java/io/PrintStream"), (.object "java/io/PrintStream"), (.object "java/io/InputStream"), .int, .int, .int, (.object "java/lang/SecurityManager"), (.object "java/lang/String"), (.object "java/io/Console"), (.object "java/io/PrintStream"), (.object "java/util/Properties"), (.object "java/lang/String"), (.object "java/lang/ModuleLayer")]
  resolved := Array.replicate 834 none
  statics := none }

def pool24 : Array CpInfo := pool [(2, .class_ 4), (1, u "java/lang/Object"), (0, u "<init>"), (0, u "()V"), (17, .class_ 26), (1, u "jdk/internal/util/Preconditions"), (28, .class_ 56), (0, u "jdk/internal/util/Preconditions$4"), (57, .class_ 115), (0, u "jdk/internal/util/Preconditions$1"), (7, u "SIOOBE_FORMATTER"), (0, u "Ljava/util/function/BiFunction;"), (0, .class_ 126), (0, u "jdk/internal/util/Preconditions$2"), (3, u "AIOOBE_FORMATTER"), (0, .class_ 132), (0, u "jdk/internal/util/Preconditions$3"), (3, u "IOOBE_FORMATTER")] 57

def k24m0 : Method := { name := "<init>", desc := "()V", sig := { parameters := [], returnType := none }, accessFlags := 1, code := none }
/-- jdk/internal/util/Preconditions -/
def k24 : Class := { plain "jdk/internal/util/Preconditions" (some 0) with
  accessFlags := 33
  interfaces := #[]
  cf := some (fileOf pool24 24 #[.nestMembers #[55, 131, 125, 114]] #[{ accessFlags := 1, nameIndex := 5, descriptorIndex := 6, attributes := #[] }] 33 2 #[] #[{ accessFlags := 25, nameIndex := 123, descriptorIndex := 124, attributes := #[] }, { accessFlags := 25, nameIndex := 130, descriptorIndex := 124, attributes := #[] }, { accessFlags := 25, nameIndex := 136, descriptorIndex := 124, attributes := #[] }])
  fields := #[{ name := "SIOOBE_FORMATTER", type := (.object "java/util/function/BiFunction"), accessFlags := 25, slot := 0, constantValue := 0 }, { name := "AIOOBE_FORMATTER", type := (.object "java/util/function/BiFunction"), accessFlags := 25, slot := 1, constantValue := 0 }, { name := "IOOBE_FORMATTER", type := (.object "java/util/function/BiFunction"), accessFlags := 25, slot := 2, constantValue := 0 }]
  methods := #[k24m0]
  instanceTypes := #[]
  staticTypes := #[(.object "java/util/function/BiFunction"), (.object "java/util/function/BiFunction"), (.object "java/util/function/BiFunction")]
  resolved := Array.replicate 194 none
  statics := some 4 }

def pool25 : Array CpInfo := pool [(9, u "<init>"), (6, .class_ 18), (1, u "java/lang/Object"), (0, u "()V"), (1, .class_ 23), (1, u "jdk/internal/util/ArraysSupport"), (0, u "LOG2_ARRAY_LONG_INDEX_SCALE"), (0, u "I"), (2, u "U"), (0, u "Ljdk/internal/misc/Unsafe;"), (8, u "BIG_ENDIAN"), (0, u "Z"), (8, u "LOG2_BYTE_BIT_SIZE"), (4, u "LOG2_ARRAY_INT_INDEX_SCALE"), (54, u "JLA"), (0, u "Ljdk/internal/access/JavaLangAccess;"), (11, u "LOG2_ARRAY_BOOLEAN_INDEX_SCALE"), (9, u "LOG2_ARRAY_BYTE_INDEX_SCALE"), (5, u "LOG2_ARRAY_CHAR_INDEX_SCALE"), (5, u "LOG2_ARRAY_SHORT_INDEX_SCALE"), (18, u "LOG2_ARRAY_FLOAT_INDEX_SCALE"), (24, u "LOG2_ARRAY_DOUBLE_INDEX_SCALE"), (89, u "T_BOOLEAN"), (2, u "T_CHAR"), (1, u "T_FLOAT"), (1, u "T_DOUBLE"), (1, u "T_BYTE"), (1, u "T_SHORT"), (1, u "T_INT"), (1, u "T_LONG"), (1, u "SOFT_MAX_ARRAY_LENGTH")] 83

def k25m0 : Method := { name := "<init>", desc := "()V", sig := { parameters := [], returnType := none }, accessFlags := 2, code := none }
/-- jdk/internal/util/ArraysSupport -/
def k25 : Class := { plain "jdk/internal/util/ArraysSupport" (some 0) with
  accessFlags := 33
  interfaces := #[]
  cf := some (fileOf pool25 21 #[] #[{ accessFlags := 2, nameIndex := 9, descriptorIndex := 19, attributes := #[] }] 33 16 #[] #[{ accessFlags := 24, nameIndex := 28, descriptorIndex := 29, attributes := #[] }, { accessFlags := 26, nameIndex := 38, descriptorIndex := 39, attributes := #[] }, { accessFlags := 25, nameIndex := 121, descriptorIndex := 25, attributes := #[] }, { accessFlags := 25, nameIndex := 131, descriptorIndex := 25, attributes := #[] }, { accessFlags := 25, nameIndex := 137, descriptorIndex := 25, attributes := #[] }, { accessFlags := 25, nameIndex := 143, descriptorIndex := 25, attributes := #[] }, { accessFlags := 25, nameIndex := 53, descriptorIndex := 25, attributes := #[] }, { accessFlags := 25, nameIndex := 24, descriptorIndex := 25, attributes := #[] }, { accessFlags := 25, nameIndex := 162, descriptorIndex := 25, attributes := #[] }, { accessFlags := 25, nameIndex := 187, descriptorIndex := 25, attributes := #[] }, { accessFlags := 26, nameIndex := 48, descriptorIndex := 25, attributes := #[] }, { accessFlags := 25, nameIndex := 277, descriptorIndex := 25, attributes := #[] }, { accessFlags := 25, nameIndex := 280, descriptorIndex := 25, attributes := #[] }, { accessFlags := 25, nameIndex := 282, descriptorIndex := 25, attributes := #[] }, { accessFlags := 25, nameIndex := 284, descriptorIndex := 25, attributes := #[] }, { accessFlags := 25, nameIndex := 286, descriptorIndex := 25, attributes := #[] }, { accessFlags := 25, nameIndex := 288, descriptorIndex := 25, attributes := #[] }, { accessFlags := 25, nameIndex := 290, descriptorIndex := 25, attributes := #[] }, { accessFlags := 25, nameIndex := 292, descriptorIndex := 25, attributes := #[] }, { accessFlags := 26, nameIndex := 108, descriptorIndex := 109, attributes := #[] }, { accessFlags := 25, nameIndex := 294, descriptorIndex := 25, attributes := #[] }])
  fields := #[{ name := "U", type := (.object "jdk/internal/misc/Unsafe"), accessFlags := 24, slot := 0, constantValue := 0 }, { name := "BIG_ENDIAN", type := .boolean, accessFlags := 26, slot := 1, constantValue := 0 }, { name := "LOG2_ARRAY_BOOLEAN_INDEX_SCALE", type := .int, accessFlags := 25, slot := 2, constantValue := 0 }, { name := "LOG2_ARRAY_BYTE_INDEX_SCALE", type := .int, accessFlags := 25, slot := 3, constantValue := 0 }, { name := "LOG2_ARRAY_CHAR_INDEX_SCALE", type := .int, accessFlags := 25, slot := 4, constantValue := 0 }, { name := "LOG2_ARRAY_SHORT_INDEX_SCALE", type := .int, accessFlags := 25, slot := 5, constantValue := 0 }, { name := "LOG2_ARRAY_INT_INDEX_SCALE", type := .int, accessFlags := 25, slot := 6, constantValue := 0 }, { name := "LOG2_ARRAY_LONG_INDEX_SCALE", type := .int, accessFlags := 25, slot := 7, constantValue := 0 }, { name := "LOG2_ARRAY_FLOAT_INDEX_SCALE", type := .int, accessFlags := 25, slot := 8, constantValue := 0 }, { name := "LOG2_ARRAY_DOUBLE_INDEX_SCALE", type := .int, accessFlags := 25, slot := 9, constantValue := 0 }, { name := "LOG2_BYTE_BIT_SIZE", type := .int, accessFlags := 26, slot := 10, constantValue := 0 }, { name := "T_BOOLEAN", type := .int, accessFlags := 25, slot := 11, constantValue := 0 }, { name := "T_CHAR", type := .int, accessFlags := 25, slot := 12, constantValue := 0 }, { name := "T_FLOAT", type := .int, accessFlags := 25, slot := 13, constantValue := 0 }, { name := "T_DOUBLE", type := .int, accessFlags := 25, slot := 14, constantValue := 0 }, { name := "T_BYTE", type := .int, accessFlags := 25, slot := 15, constantValue := 0 }, { name := "T_SHORT", type := .int, accessFlags := 25, slot := 16, constantValue := 0 }, { name := "T_INT", type := .int, accessFlags := 25, slot := 17, constantValue := 0 }, { name := "T_LONG", type := .int, accessFlags := 25, slot := 18, constantValue := 0 }, { name := "JLA", type := (.object "jdk/internal/access/JavaLangAccess"), accessFlags := 26, slot := 19, constantValue := 0 }, { name := "SOFT_MAX_ARRAY_LENGTH", type := .int, accessFlags := 25, slot := 20, constantValue := 0 }]
  methods := #[k25m0]
  instanceTypes := #[]
  staticTypes := #[(.object "jdk/internal/misc/Unsafe"), .boolean, .int, .int, .int, .int, .int, .int, .int, .int, .int, .int, .int, .int, .int, .int, .int, .int, .int, (.object "jdk/internal/access/JavaLangAccess"), .int]
  resolved := Array.replicate 378 none
  statics := none }

/-- the primitive byte -/
def k26 : Class := { plain "byte" none with kind := .primitive 'B', accessFlags := 0x411 }
/-- [B -/
def k27 : Class := { plain "[B" (some 0) with kind := .array 26 .byte, interfaces := #[18, 2], accessFlags := 1041 }

/-- the primitive char -/
def k28 : Class := { plain "char" none with kind := .primitive 'C', accessFlags := 0x411 }
/-- [C -/
def k29 : Class := { plain "[C" (some 0) with kind := .array 28 .char, interfaces := #[18, 2], accessFlags := 1041 }

/-- the primitive int -/
def k30 : Class := { plain "int" none with kind := .primitive 'I', accessFlags := 0x411 }
/-- [I -/
def k31 : Class := { plain "[I" (some 0) with kind := .array 30 .int, interfaces := #[18, 2], accessFlags := 1041 }

def heap : Heap := #[{ cls := 7, slots := #[.long 0, .int 1, .null, .int 0, .null, .int 0, .int 0], vm := .statics 7 },
  { cls := 10, slots := #[.ref 5, .ref 8, .ref 6, .ref 7, .null], vm := .statics 10 },
  { cls := 12, slots := #[.null, .null, .ref 9, .null, .null, .null], vm := .statics 12 },
  { cls := 16, slots := #[.ref 9, .null], vm := .statics 16 },
  { cls := 24, slots := #[.null, .null, .null], vm := .statics 24 },
  { cls := 10, slots := #[.null, .int 0, .int 0], vm := .none },
  { cls := 10, slots := #[.null, .int 2, .int 0], vm := .none },
  { cls := 10, slots := #[.null, .int 3, .int 0], vm := .none },
  { cls := 10, slots := #[.null, .int 1, .int 0], vm := .none },
  { cls := 16, slots := #[.null, .null, .null], vm := .none }]
def classes : Array Class := #[k0, k1, k2, k3, k4, k5, k6, k7, k8, k9, k10, k11, k12, k13, k14, k15, k16, k17, k18, k19, k20, k21, k22, k23, k24, k25, k26, k27, k28, k29, k30, k31]
def interned : List (Array UInt16 × Addr) := []
def slotsUsed : Nat := 38
def theMethod : MethodId := ⟨1, 3⟩
def args0 : Array Value := #[.int 5, .int 5, .long 5, .long 5, .int 5]
def aboutOver (below : List Frame) : State where
  vm := { classes := classes, interned := interned.toArray }
  heap := heap
  slotsUsed := slotsUsed
  threads := #[{ frames := .invoking theMethod args0 :: below }]
def below0 : List Frame := [.native { method := ⟨0, 0⟩, args := #[] }]
def about1 : State := aboutOver below0
def p0 : Program := .bare "" "" ""
def e0 : Env := launch0.env 0 0 0
theorem w_frames : about1.frames = Frame.invoking theMethod args0 :: below0 := rfl
set_option maxRecDepth 65536 in
theorem w_args : argsFit about1.vm theMethod args0 = true := by decide +kernel
set_option maxRecDepth 65536 in
theorem w_heap : heapFits about1 = true := by decide +kernel
set_option maxRecDepth 65536 in
theorem w_runnable : about1.curStatus? = some .runnable := by decide +kernel
set_option maxRecDepth 65536 in
theorem w_alone : about1.alone = true := by decide +kernel
set_option maxRecDepth 65536 in
theorem w_named : about1.methodNamed? x = some theMethod := by decide +kernel
set_option maxRecDepth 65536 in
theorem w_hears : about1.hears theMethod below0 = true := by decide +kernel
set_option maxRecDepth 65536 in
theorem w_ripe : about1.ripe theMethod args0 below0 = true := by decide +kernel
theorem w_running : about1.status = .running := rfl
set_option maxRecDepth 65536 in
theorem w_room : about1.hasRoom e0.platform room_1 = true :=
  launch0.hasRoom_least _ room_1 (by decide +kernel) (by decide +kernel) (by decide +kernel) (by decide +kernel) (by decide +kernel) (by decide +kernel)
theorem allAtoms_all (ts : List Jvm.Cond) (a : Array Jvm.Value) (st : Jvm.State) : (allAtoms ts).before a st = ts.all (fun c => c.before a st) := by
  induction ts with
  | nil => rfl
  | cons c t ih =>
    show (Jvm.Cond.and c (allAtoms t)).before a st = _
    rw [Jvm.Cond.before_and, ih, List.all_cons]
def words1 : List Jvm.Cond := Jvm.Cond.code x code maxLocals ret :: tables_1
/-- a 'code' word, met by the world's own term for the bytes: nothing is compared byte by byte -/
theorem code_word {y : MethodName} {bytes : ByteArray} {mx : Nat} {rt : Option FieldType} {a : Array Value} {s : State} {m : MethodId} {meth : Method} {c : Code} (h1 : s.methodNamed? y = some m) (h2 : s.vm.method? m = some meth) (h3 : meth.code = some c) (h4 : c.code = bytes)
    (h5 : (c.maxLocals == mx && c.exceptionTable.isEmpty && decide (c.maxStack ≤ mostOperands) && decide (meth.sig.returnType = rt) && !meth.locks && decide (parseMethodDescriptor y.desc = some meth.sig)) = true) : (Jvm.Cond.code y bytes mx rt).before a s = true := by
  simp only [Bool.and_eq_true, beq_iff_eq, Bool.not_eq_true', decide_eq_true_eq] at h5
  obtain ⟨⟨⟨⟨⟨g1, g2⟩, g3⟩, g4⟩, g5⟩, g6⟩ := h5
  simp [Cond.before, Cond.holds, Cond.value, h1, h2, h3, h4, g1, g2, g3, g4, g5, g6]
def isCode : Jvm.Cond → Bool
  | .code _ _ _ _ => true
  | _ => false
theorem all_split {L : List Jvm.Cond} {P : Jvm.Cond → Bool} (h1 : L.all (fun c => isCode c || P c) = true) (h2 : ∀ c ∈ L.filter isCode, P c = true) : L.all P = true := by
  refine List.all_eq_true.mpr fun c hc => ?_
  have h := List.all_eq_true.mp h1 c hc
  rcases Bool.eq_false_or_eq_true (isCode c) with hi | hi
  · exact h2 c (List.mem_filter.mpr ⟨hc, hi⟩)
  · simpa [hi] using h
set_option maxRecDepth 65536 in
theorem w_c0 : (Jvm.Cond.code x code maxLocals ret).before args0 about1 = true := code_word (m := ⟨1, 3⟩) (meth := k1m3) (c := k1c3) (by decide +kernel) rfl rfl rfl (by decide +kernel)
set_option maxRecDepth 65536 in
theorem w_c1 : (Jvm.Cond.code ({ cls := "com/example/lease/lease/OwnerCountEqualsPinLaw", name := "mk", desc := "(ICC)Ljava/lang/String;" } : Jvm.MethodName) method_3_code (3 : Nat) (Option.some (Jvm.ClassFile.FieldType.object "java/lang/String"))).before args0 about1 = true := code_word (m := ⟨1, 2⟩) (meth := k1m2) (c := k1c2) (by decide +kernel) rfl rfl rfl (by decide +kernel)
set_option maxRecDepth 65536 in
theorem w_c2 : (Jvm.Cond.code ({ cls := "java/lang/String", name := "<init>", desc := "([C)V" } : Jvm.MethodName) jdk_42_method_3_code (2 : Nat) (Option.none : Option Jvm.ClassFile.FieldType)).before args0 about1 = true := code_word (m := ⟨7, 1⟩) (meth := k7m1) (c := k7c1) (by decide +kernel) rfl rfl rfl (by decide +kernel)
set_option maxRecDepth 65536 in
theorem w_c3 : (Jvm.Cond.code ({ cls := "java/lang/String", name := "<init>", desc := "([CIILjava/lang/Void;)V" } : Jvm.MethodName) jdk_42_method_149_code (6 : Nat) (Option.none : Option Jvm.ClassFile.FieldType)).before args0 about1 = true := code_word (m := ⟨7, 6⟩) (meth := k7m6) (c := k7c6) (by decide +kernel) rfl rfl rfl (by decide +kernel)
set_option maxRecDepth 65536 in
theorem w_c4 : (Jvm.Cond.code ({ cls := "java/lang/Object", name := "<init>", desc := "()V" } : Jvm.MethodName) object_method_1_code (1 : Nat) (Option.none : Option Jvm.ClassFile.FieldType)).before args0 about1 = true := code_word (m := ⟨0, 0⟩) (meth := k0m0) (c := k0c0) (by decide +kernel) rfl rfl rfl (by decide +kernel)
set_option maxRecDepth 65536 in
theorem w_c5 : (Jvm.Cond.code ({ cls := "com/example/lease/lease/OwnerCountEqualsPinLaw", name := "st", desc := "(I)Lcom/example/lease/lease/PartitionStatus;" } : Jvm.MethodName) method_2_code (1 : Nat) (Option.some (Jvm.ClassFile.FieldType.object "com/example/lease/lease/PartitionStatus"))).before args0 about1 = true := code_word (m := ⟨1, 1⟩) (meth := k1m1) (c := k1c1) (by decide +kernel) rfl rfl rfl (by decide +kernel)
set_option maxRecDepth 65536 in
theorem w_c6 : (Jvm.Cond.code ({ cls := "com/example/lease/lease/OwnerCount", name := "<init>", desc := "(Ljava/lang/String;Lcom/example/lease/lease/PartitionStatus;J)V" } : Jvm.MethodName) prog_22_method_1_code (5 : Nat) (Option.none : Option Jvm.ClassFile.FieldType)).before args0 about1 = true := code_word (m := ⟨8, 0⟩) (meth := k8m0) (c := k8c0) (by decide +kernel) rfl rfl rfl (by decide +kernel)
set_option maxRecDepth 65536 in
theorem w_c7 : (Jvm.Cond.code ({ cls := "java/util/Objects", name := "requireNonNull", desc := "(Ljava/lang/Object;Ljava/lang/String;)Ljava/lang/Object;" } : Jvm.MethodName) jdk_31_method_11_code (2 : Nat) (Option.some (Jvm.ClassFile.FieldType.object "java/lang/Object"))).before args0 about1 = true := code_word (m := ⟨11, 1⟩) (meth := k11m1) (c := k11c1) (by decide +kernel) rfl rfl rfl (by decide +kernel)
set_option maxRecDepth 65536 in
theorem w_c8 : (Jvm.Cond.code ({ cls := "java/lang/String", name := "getBytes", desc := "(Ljava/nio/charset/Charset;)[B" } : Jvm.MethodName) jdk_42_method_64_code (2 : Nat) (Option.some (Jvm.ClassFile.FieldType.array Jvm.ClassFile.FieldType.byte))).before args0 about1 = true := code_word (m := ⟨7, 4⟩) (meth := k7m4) (c := k7c4) (by decide +kernel) rfl rfl rfl (by decide +kernel)
set_option maxRecDepth 65536 in
theorem w_c9 : (Jvm.Cond.code ({ cls := "java/lang/String", name := "coder", desc := "()B" } : Jvm.MethodName) jdk_42_method_152_code (1 : Nat) (Option.some Jvm.ClassFile.FieldType.byte)).before args0 about1 = true := code_word (m := ⟨7, 7⟩) (meth := k7m7) (c := k7c7) (by decide +kernel) rfl rfl rfl (by decide +kernel)
set_option maxRecDepth 65536 in
theorem w_c10 : (Jvm.Cond.code ({ cls := "java/lang/String", name := "encode", desc := "(Ljava/nio/charset/Charset;B[B)[B" } : Jvm.MethodName) jdk_42_method_18_code (3 : Nat) (Option.some (Jvm.ClassFile.FieldType.array Jvm.ClassFile.FieldType.byte))).before args0 about1 = true := code_word (m := ⟨7, 2⟩) (meth := k7m2) (c := k7c2) (by decide +kernel) rfl rfl rfl (by decide +kernel)
set_option maxRecDepth 65536 in
theorem w_c11 : (Jvm.Cond.code ({ cls := "java/lang/String", name := "encodeUTF8", desc := "(B[BZ)[B" } : Jvm.MethodName) jdk_42_method_46_code (9 : Nat) (Option.some (Jvm.ClassFile.FieldType.array Jvm.ClassFile.FieldType.byte))).before args0 about1 = true := code_word (m := ⟨7, 3⟩) (meth := k7m3) (c := k7c3) (by decide +kernel) rfl rfl rfl (by decide +kernel)
set_option maxRecDepth 65536 in
theorem w_c12 : (Jvm.Cond.code ({ cls := "java/lang/StringCoding", name := "hasNegatives", desc := "([BII)Z" } : Jvm.MethodName) jdk_123_method_2_code (3 : Nat) (Option.some Jvm.ClassFile.FieldType.boolean)).before args0 about1 = true := code_word (m := ⟨17, 1⟩) (meth := k17m1) (c := k17c1) (by decide +kernel) rfl rfl rfl (by decide +kernel)
set_option maxRecDepth 65536 in
theorem w_c13 : (Jvm.Cond.code ({ cls := "java/lang/StringCoding", name := "countPositives", desc := "([BII)I" } : Jvm.MethodName) jdk_123_method_3_code (5 : Nat) (Option.some Jvm.ClassFile.FieldType.int)).before args0 about1 = true := code_word (m := ⟨17, 2⟩) (meth := k17m2) (c := k17c2) (by decide +kernel) rfl rfl rfl (by decide +kernel)
set_option maxRecDepth 65536 in
theorem w_c14 : (Jvm.Cond.code ({ cls := "com/example/lease/lease/OwnerCount", name := "equals", desc := "(Ljava/lang/Object;)Z" } : Jvm.MethodName) prog_22_method_5_code (3 : Nat) (Option.some Jvm.ClassFile.FieldType.boolean)).before args0 about1 = true := code_word (m := ⟨8, 1⟩) (meth := k8m1) (c := k8c1) (by decide +kernel) rfl rfl rfl (by decide +kernel)
set_option maxRecDepth 65536 in
theorem w_c15 : (Jvm.Cond.code ({ cls := "java/lang/String", name := "equals", desc := "(Ljava/lang/Object;)Z" } : Jvm.MethodName) jdk_42_method_66_code (3 : Nat) (Option.some Jvm.ClassFile.FieldType.boolean)).before args0 about1 = true := code_word (m := ⟨7, 5⟩) (meth := k7m5) (c := k7c5) (by decide +kernel) rfl rfl rfl (by decide +kernel)
set_option maxRecDepth 65536 in
theorem w_c16 : (Jvm.Cond.code ({ cls := "java/lang/StringLatin1", name := "equals", desc := "([B[B)Z" } : Jvm.MethodName) jdk_43_method_13_code (3 : Nat) (Option.some Jvm.ClassFile.FieldType.boolean)).before args0 about1 = true := code_word (m := ⟨19, 1⟩) (meth := k19m1) (c := k19c1) (by decide +kernel) rfl rfl rfl (by decide +kernel)
set_option maxRecDepth 65536 in
theorem w_c17 : (Jvm.Cond.code ({ cls := "java/lang/StringUTF16", name := "compress", desc := "([CII)[B" } : Jvm.MethodName) jdk_52_method_16_code (6 : Nat) (Option.some (Jvm.ClassFile.FieldType.array Jvm.ClassFile.FieldType.byte))).before args0 about1 = true := code_word (m := ⟨20, 4⟩) (meth := k20m4) (c := k20c4) (by decide +kernel) rfl rfl rfl (by decide +kernel)
set_option maxRecDepth 65536 in
theorem w_c18 : (Jvm.Cond.code ({ cls := "java/lang/StringUTF16", name := "compress", desc := "([CI[BII)I" } : Jvm.MethodName) jdk_52_method_21_code (7 : Nat) (Option.some Jvm.ClassFile.FieldType.int)).before args0 about1 = true := code_word (m := ⟨20, 5⟩) (meth := k20m5) (c := k20c5) (by decide +kernel) rfl rfl rfl (by decide +kernel)
set_option maxRecDepth 65536 in
theorem w_c19 : (Jvm.Cond.code ({ cls := "java/lang/StringUTF16", name := "coderFromArrayLen", desc := "([BI)B" } : Jvm.MethodName) jdk_52_method_15_code (2 : Nat) (Option.some Jvm.ClassFile.FieldType.byte)).before args0 about1 = true := code_word (m := ⟨20, 3⟩) (meth := k20m3) (c := k20c3) (by decide +kernel) rfl rfl rfl (by decide +kernel)
set_option maxRecDepth 65536 in
theorem w_c20 : (Jvm.Cond.code ({ cls := "java/lang/StringUTF16", name := "newBytesFor", desc := "(I)[B" } : Jvm.MethodName) jdk_52_method_2_code (1 : Nat) (Option.some (Jvm.ClassFile.FieldType.array Jvm.ClassFile.FieldType.byte))).before args0 about1 = true := code_word (m := ⟨20, 1⟩) (meth := k20m1) (c := k20c1) (by decide +kernel) rfl rfl rfl (by decide +kernel)
set_option maxRecDepth 65536 in
theorem w_c21 : (Jvm.Cond.code ({ cls := "java/lang/StringUTF16", name := "newBytesLength", desc := "(I)I" } : Jvm.MethodName) jdk_52_method_3_code (1 : Nat) (Option.some Jvm.ClassFile.FieldType.int)).before args0 about1 = true := code_word (m := ⟨20, 2⟩) (meth := k20m2) (c := k20c2) (by decide +kernel) rfl rfl rfl (by decide +kernel)
set_option maxRecDepth 65536 in
theorem w_c22 : (Jvm.Cond.code ({ cls := "java/util/Arrays", name := "copyOf", desc := "([BI)[B" } : Jvm.MethodName) jdk_65_method_121_code (3 : Nat) (Option.some (Jvm.ClassFile.FieldType.array Jvm.ClassFile.FieldType.byte))).before args0 about1 = true := code_word (m := ⟨21, 1⟩) (meth := k21m1) (c := k21c1) (by decide +kernel) rfl rfl rfl (by decide +kernel)
set_option maxRecDepth 65536 in
theorem w_c23 : (Jvm.Cond.code ({ cls := "java/lang/Math", name := "min", desc := "(II)I" } : Jvm.MethodName) jdk_29_method_69_code (2 : Nat) (Option.some Jvm.ClassFile.FieldType.int)).before args0 about1 = true := code_word (m := ⟨22, 1⟩) (meth := k22m1) (c := k22c1) (by decide +kernel) rfl rfl rfl (by decide +kernel)
def codes1 : List Jvm.Cond := [Jvm.Cond.code x code maxLocals ret, Jvm.Cond.code ({ cls := "com/example/lease/lease/OwnerCountEqualsPinLaw", name := "mk", desc := "(ICC)Ljava/lang/String;" } : Jvm.MethodName) method_3_code (3 : Nat) (Option.some (Jvm.ClassFile.FieldType.object "java/lang/String")), Jvm.Cond.code ({ cls := "java/lang/String", name := "<init>", desc := "([C)V" } : Jvm.MethodName) jdk_42_method_3_code (2 : Nat) (Option.none : Option Jvm.ClassFile.FieldType), Jvm.Cond.code ({ cls := "java/lang/String", name := "<init>", desc := "([CIILjava/lang/Void;)V" } : Jvm.MethodName) jdk_42_method_149_code (6 : Nat) (Option.none : Option Jvm.ClassFile.FieldType), Jvm.Cond.code ({ cls := "java/lang/Object", name := "<init>", desc := "()V" } : Jvm.MethodName) object_method_1_code (1 : Nat) (Option.none : Option Jvm.ClassFile.FieldType), Jvm.Cond.code ({ cls := "com/example/lease/lease/OwnerCountEqualsPinLaw", name := "st", desc := "(I)Lcom/example/lease/lease/PartitionStatus;" } : Jvm.MethodName) method_2_code (1 : Nat) (Option.some (Jvm.ClassFile.FieldType.object "com/example/lease/lease/PartitionStatus")), Jvm.Cond.code ({ cls := "com/example/lease/lease/OwnerCount", name := "<init>", desc := "(Ljava/lang/String;Lcom/example/lease/lease/PartitionStatus;J)V" } : Jvm.MethodName) prog_22_method_1_code (5 : Nat) (Option.none : Option Jvm.ClassFile.FieldType), Jvm.Cond.code ({ cls := "java/util/Objects", name := "requireNonNull", desc := "(Ljava/lang/Object;Ljava/lang/String;)Ljava/lang/Object;" } : Jvm.MethodName) jdk_31_method_11_code (2 : Nat) (Option.some (Jvm.ClassFile.FieldType.object "java/lang/Object")), Jvm.Cond.code ({ cls := "java/lang/String", name := "getBytes", desc := "(Ljava/nio/charset/Charset;)[B" } : Jvm.MethodName) jdk_42_method_64_code (2 : Nat) (Option.some (Jvm.ClassFile.FieldType.array Jvm.ClassFile.FieldType.byte)), Jvm.Cond.code ({ cls := "java/lang/String", name := "coder", desc := "()B" } : Jvm.MethodName) jdk_42_method_152_code (1 : Nat) (Option.some Jvm.ClassFile.FieldType.byte), Jvm.Cond.code ({ cls := "java/lang/String", name := "encode", desc := "(Ljava/nio/charset/Charset;B[B)[B" } : Jvm.MethodName) jdk_42_method_18_code (3 : Nat) (Option.some (Jvm.ClassFile.FieldType.array Jvm.ClassFile.FieldType.byte)), Jvm.Cond.code ({ cls := "java/lang/String", name := "encodeUTF8", desc := "(B[BZ)[B" } : Jvm.MethodName) jdk_42_method_46_code (9 : Nat) (Option.some (Jvm.ClassFile.FieldType.array Jvm.ClassFile.FieldType.byte)), Jvm.Cond.code ({ cls := "java/lang/StringCoding", name := "hasNegatives", desc := "([BII)Z" } : Jvm.MethodName) jdk_123_method_2_code (3 : Nat) (Option.some Jvm.ClassFile.FieldType.boolean), Jvm.Cond.code ({ cls := "java/lang/StringCoding", name := "countPositives", desc := "([BII)I" } : Jvm.MethodName) jdk_123_method_3_code (5 : Nat) (Option.some Jvm.ClassFile.FieldType.int), Jvm.Cond.code ({ cls := "com/example/lease/lease/OwnerCount", name := "equals", desc := "(Ljava/lang/Object;)Z" } : Jvm.MethodName) prog_22_method_5_code (3 : Nat) (Option.some Jvm.ClassFile.FieldType.boolean), Jvm.Cond.code ({ cls := "java/lang/String", name := "equals", desc := "(Ljava/lang/Object;)Z" } : Jvm.MethodName) jdk_42_method_66_code (3 : Nat) (Option.some Jvm.ClassFile.FieldType.boolean), Jvm.Cond.code ({ cls := "java/lang/StringLatin1", name := "equals", desc := "([B[B)Z" } : Jvm.MethodName) jdk_43_method_13_code (3 : Nat) (Option.some Jvm.ClassFile.FieldType.boolean), Jvm.Cond.code ({ cls := "java/lang/StringUTF16", name := "compress", desc := "([CII)[B" } : Jvm.MethodName) jdk_52_method_16_code (6 : Nat) (Option.some (Jvm.ClassFile.FieldType.array Jvm.ClassFile.FieldType.byte)), Jvm.Cond.code ({ cls := "java/lang/StringUTF16", name := "compress", desc := "([CI[BII)I" } : Jvm.MethodName) jdk_52_method_21_code (7 : Nat) (Option.some Jvm.ClassFile.FieldType.int), Jvm.Cond.code ({ cls := "java/lang/StringUTF16", name := "coderFromArrayLen", desc := "([BI)B" } : Jvm.MethodName) jdk_52_method_15_code (2 : Nat) (Option.some Jvm.ClassFile.FieldType.byte), Jvm.Cond.code ({ cls := "java/lang/StringUTF16", name := "newBytesFor", desc := "(I)[B" } : Jvm.MethodName) jdk_52_method_2_code (1 : Nat) (Option.some (Jvm.ClassFile.FieldType.array Jvm.ClassFile.FieldType.byte)), Jvm.Cond.code ({ cls := "java/lang/StringUTF16", name := "newBytesLength", desc := "(I)I" } : Jvm.MethodName) jdk_52_method_3_code (1 : Nat) (Option.some Jvm.ClassFile.FieldType.int), Jvm.Cond.code ({ cls := "java/util/Arrays", name := "copyOf", desc := "([BI)[B" } : Jvm.MethodName) jdk_65_method_121_code (3 : Nat) (Option.some (Jvm.ClassFile.FieldType.array Jvm.ClassFile.FieldType.byte)), Jvm.Cond.code ({ cls := "java/lang/Math", name := "min", desc := "(II)I" } : Jvm.MethodName) jdk_29_method_69_code (2 : Nat) (Option.some Jvm.ClassFile.FieldType.int)]
set_option maxRecDepth 65536 in
theorem codes_eq : words1.filter isCode = codes1 := rfl
theorem w_codes : ∀ c ∈ words1.filter isCode, c.before args0 about1 = true := by
  rw [codes_eq]
  intro c hc
  simp only [codes1, List.mem_cons, List.not_mem_nil, or_false] at hc
  rcases hc with rfl | rfl | rfl | rfl | rfl | rfl | rfl | rfl | rfl | rfl | rfl | rfl | rfl | rfl | rfl | rfl | rfl | rfl | rfl | rfl | rfl | rfl | rfl | rfl
  · exact w_c0
  · exact w_c1
  · exact w_c2
  · exact w_c3
  · exact w_c4
  · exact w_c5
  · exact w_c6
  · exact w_c7
  · exact w_c8
  · exact w_c9
  · exact w_c10
  · exact w_c11
  · exact w_c12
  · exact w_c13
  · exact w_c14
  · exact w_c15
  · exact w_c16
  · exact w_c17
  · exact w_c18
  · exact w_c19
  · exact w_c20
  · exact w_c21
  · exact w_c22
  · exact w_c23
set_option maxRecDepth 65536 in
theorem w_t1 : (words1.take 24).all (fun c => isCode c || c.before args0 about1) = true := by decide +kernel
set_option maxRecDepth 65536 in
theorem w_t2 : ((words1.drop 24).take 24).all (fun c => isCode c || c.before args0 about1) = true := by decide +kernel
set_option maxRecDepth 65536 in
theorem w_t3 : (((words1.drop 24).drop 24).take 24).all (fun c => isCode c || c.before args0 about1) = true := by decide +kernel
set_option maxRecDepth 65536 in
theorem w_t4 : ((((words1.drop 24).drop 24).drop 24).take 24).all (fun c => isCode c || c.before args0 about1) = true := by decide +kernel
set_option maxRecDepth 65536 in
theorem w_t5 : (((((words1.drop 24).drop 24).drop 24).drop 24).take 24).all (fun c => isCode c || c.before args0 about1) = true := by decide +kernel
set_option maxRecDepth 65536 in
theorem w_t6 : ((((((words1.drop 24).drop 24).drop 24).drop 24).drop 24).take 24).all (fun c => isCode c || c.before args0 about1) = true := by decide +kernel
set_option maxRecDepth 65536 in
theorem w_t7 : ((((((words1.drop 24).drop 24).drop 24).drop 24).drop 24).drop 24).all (fun c => isCode c || c.before args0 about1) = true := by decide +kernel
theorem w_tables : (allAtoms (Jvm.Cond.code x code maxLocals ret :: tables_1)).before args0 about1 = true := by
  rw [allAtoms_all]
  show words1.all (fun c => c.before args0 about1) = true
  refine all_split ?_ w_codes
  rw [← List.take_append_drop 24 words1, List.all_append, w_t1, ← List.take_append_drop 24 (words1.drop 24), List.all_append, w_t2, ← List.take_append_drop 24 ((words1.drop 24).drop 24), List.all_append, w_t3, ← List.take_append_drop 24 (((words1.drop 24).drop 24).drop 24), List.all_append, w_t4, ← List.take_append_drop 24 ((((words1.drop 24).drop 24).drop 24).drop 24), List.all_append, w_t5, ← List.take_append_drop 24 (((((words1.drop 24).drop 24).drop 24).drop 24).drop 24), List.all_append, w_t6, w_t7]
  rfl
set_option maxRecDepth 65536 in
theorem w_rest : rest_1_c.before args0 about1 = true := by decide +kernel
set_option maxRecDepth 65536 in
theorem w_case : (Jvm.Cond.and given_1 narrow_1).before args0 about1 = true := by decide +kernel
set_option maxRecDepth 65536 in
theorem w_consts : constsHeld consts_1 about1 := Jvm.Lit.constsHeldB_iff.mp (by decide +kernel)
theorem w_applies : (headSpec (Jvm.Cond.code x code maxLocals ret :: tables_1) room_1).applies x e0.platform about1 = true :=
  (Spec.applies_iff w_frames).mpr ⟨w_running, w_runnable, w_alone, w_named, w_hears, w_ripe, w_room, w_tables⟩
theorem atStart : AtStart classFile x code maxLocals ret World_1 tables_1 room_1 Calls_1 rest_1 Pre_1 launch0 p0 e0 about1 theMethod args0 below0 :=
  ⟨lists_1, trivial, launch0.admits_env _ _ _, launch0.least_env, fairChoices_fair.cas, fairChoices_fair.clock, w_frames, w_args, w_heap, w_applies, ⟨w_consts, trivial⟩, w_rest, w_case⟩
end start1
theorem witness_1 : WitnessClaimed_1 := ⟨start1.p0, start1.e0, start1.about1, start1.theMethod, start1.args0, start1.below0, start1.atStart⟩
end Jvm.Pilot.@@N@@
