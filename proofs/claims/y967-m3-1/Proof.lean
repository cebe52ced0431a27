import JvmDerived
import JvmDerived.Pilot.@@N@@Statement
import JvmDerived.Pilot.@@N@@Code
set_option linter.unusedVariables false
set_option linter.unusedSimpArgs false
/- laws to paste: Road.backV (cut by pick.py; bodies as the Statement names them) -/
namespace Jvm.Pilot.@@N@@
namespace StrChars
open Jvm Sem ClassFile Op Lib Jvm.Stand Jvm.Free.XT Jvm.Free.ALB Jvm.Free.JM Jvm.Free
open Jvm.Lib.Cold (StaticIs)
/-- a char array whose places are chars -/
def Ch (a : Addr) (A : Cell) (U : State) : Prop := Arr .char a A U ∧ Typed .char A
theorem Ch.mv {a : Addr} {A : Cell} {U U' : State} (h : Ch a A U) (hal : U.vm.Alike U'.vm) (hh : U'.heap = U.heap) : Ch a A U' := ⟨h.1.mv hal hh, h.2⟩
theorem Ch.keep {a : Addr} {A : Cell} {U U' : State} (h : Ch a A U) (hal : U.vm.Alike U'.vm) (hk : U'.heap[a]? = some A) : Ch a A U' := ⟨h.1.keep hal hk, h.2⟩
/-- what place i of a char[]'s cell holds -/
def cv (A : Cell) (i : Nat) : Int32 := match A.slots[i]? with | some (.int x) => x | _ => 0
theorem Ch.get {a : Addr} {A : Cell} {U : State} (h : Ch a A U) {i : Nat} (hi : i < A.slots.size) : A.slots[i]? = some (.int (cv A i)) := by
  have e := Array.getElem?_eq_getElem hi
  have f := h.2 i _ e
  unfold cv; rw [e]
  generalize A.slots[i] = v at f
  cases v <;> simp [fits] at f ⊢
/-- the byte that i2b leaves of a char -/
def lo8 (x : Int32) : Int32 := x.toInt8.toInt32
theorem fits_lo8 (y : Int32) : fits .byte (.int (lo8 y)) = true := by
  have h1 := y.toInt8.le_toInt
  have h2 := y.toInt8.toInt_lt
  simp only [lo8, fits, Bool.and_eq_true, decide_eq_true_eq, Int32.le_iff_toInt_le, Int8.toInt_toInt32, show (-128 : Int32).toInt = -128 from by decide, show (127 : Int32).toInt = 127 from by decide]
  omega
/-- A' is A but that each place j of lo .. hi - 1 holds f j -/
def Laid (A A' : Cell) (lo hi : Nat) (f : Nat → Value) : Prop := A'.cls = A.cls ∧ A'.vm = A.vm ∧ A'.slots.size = A.slots.size ∧ ∀ i, A'.slots[i]? = if lo ≤ i ∧ i < hi then some (f i) else A.slots[i]?
theorem Laid.zero (A : Cell) (lo : Nat) (f : Nat → Value) : Laid A A lo (lo + 0) f := ⟨rfl, rfl, rfl, fun i => by rw [if_neg (by omega)]⟩
theorem Laid.step {A Ak : Cell} {lo k : Nat} {f : Nat → Value} {v : Value} (h : Laid A Ak lo k f) (hlo : lo ≤ k) (hk : k < Ak.slots.size) (hv : v = f k) : Laid A (Ak.setSlot k v) lo (k + 1) f := by
  refine ⟨h.1, h.2.1, by simpa [Cell.setSlot] using h.2.2.1, fun i => ?_⟩
  by_cases e : k = i
  · subst e; rw [Cell.slots_setSlot_self v hk, if_pos (by omega), hv]
  · rw [Cell.slots_setSlot_ne v e, h.2.2.2 i]
    by_cases q : lo ≤ i ∧ i < k
    · rw [if_pos q, if_pos (by omega)]
    · rw [if_neg q, if_neg (by omega)]
def U16 : String := "java/lang/StringUTF16"
namespace Cmp5
def yN : MethodName := ⟨"java/lang/StringUTF16", "compress", "([CI[BII)I"⟩
abbrev yB : ByteArray := jdk_52_method_21_code
theorem d0 : decode yB 0 = .ok (.iconst 0, 1) := by decide +kernel
theorem d1 : decode yB 1 = .ok (.istore 5, 2) := by decide +kernel
theorem d3 : decode yB 3 = .ok (.iload 5, 2) := by decide +kernel
theorem d5 : decode yB 5 = .ok (.iload 4, 2) := by decide +kernel
theorem d7 : decode yB 7 = .ok (.if_icmp (.ge) 37, 3) := by decide +kernel
theorem d10 : decode yB 10 = .ok (.aload_n 0, 1) := by decide +kernel
theorem d11 : decode yB 11 = .ok (.iload_n 1, 1) := by decide +kernel
theorem d12 : decode yB 12 = .ok (.caload, 1) := by decide +kernel
theorem d13 : decode yB 13 = .ok (.istore 6, 2) := by decide +kernel
theorem d15 : decode yB 15 = .ok (.iload 6, 2) := by decide +kernel
theorem d17 : decode yB 17 = .ok (.sipush 255, 3) := by decide +kernel
theorem d20 : decode yB 20 = .ok (.if_icmp (.le) 6, 3) := by decide +kernel
theorem d26 : decode yB 26 = .ok (.aload_n 2, 1) := by decide +kernel
theorem d27 : decode yB 27 = .ok (.iload_n 3, 1) := by decide +kernel
theorem d28 : decode yB 28 = .ok (.iload 6, 2) := by decide +kernel
theorem d30 : decode yB 30 = .ok (.i2b, 1) := by decide +kernel
theorem d31 : decode yB 31 = .ok (.bastore, 1) := by decide +kernel
theorem d32 : decode yB 32 = .ok (.iinc 1 1, 3) := by decide +kernel
theorem d35 : decode yB 35 = .ok (.iinc 3 1, 3) := by decide +kernel
theorem d38 : decode yB 38 = .ok (.iinc 5 1, 3) := by decide +kernel
theorem d41 : decode yB 41 = .ok (.goto (-38), 3) := by decide +kernel
theorem d44 : decode yB 44 = .ok (.iload 4, 2) := by decide +kernel
theorem d46 : decode yB 46 = .ok (.ireturn, 1) := by decide +kernel
def site : List Cond := []
def tab : Cond := tabOf yN yB 7 (some .int) site
def P (b : Addr) (A : Cell) (d : Addr) (B : Cell) (o q len : Nat) (args : Array Value) (s : State) : Prop := args = #[.ref b, .int (Int32.ofNat o), .ref d, .int (Int32.ofNat q), .int (Int32.ofNat len)] ∧ Ch b A s ∧ Arr .byte d B s ∧ b ≠ d ∧ o + len ≤ A.slots.size ∧ q + len ≤ B.slots.size ∧ ∀ i, i < len → ¬ 255 < cv A (o + i)
def E (b : Addr) (A : Cell) (d : Addr) (B : Cell) (o q len : Nat) (r : Option Value) (s u : State) : Prop := r = some (.int (Int32.ofNat len)) ∧ ∃ B', Put d B' s u ∧ Laid B B' q (q + len) (fun j => Value.int (lo8 (cv A (o + (j - q)))))
/-- no char of the range above 255: len; the places written hold each char's low byte -/
theorem law (l : Launch) (b : Addr) (A : Cell) (d : Addr) (B : Cell) (o q len : Nat) : Law l yN 5 5 0 0 yB 7 (some .int) site (P b A d B o q len) (E b A d B o q len) (copyLocs d q len) 0 0 := by
  refine Law.of_walk (plainFor_of_name (by decide +kernel)) (by decide +kernel) (by decide +kernel) (by decide) (fun _ _ h => by rw [h.1]; rfl) (fun _ U U' hal hh h => ⟨h.1, h.2.1.mv hal hh, h.2.2.1.mv hal hh, h.2.2.2⟩) (fun r U U' V V' h1 hal h2 h => ⟨h.1, h.2.elim fun B' q => ⟨B', q.1.mv h1 h2, q.2⟩⟩) ?_
  intro p e s m args below meth c s₁ X0 hexec hbytes hml hret hlk hnm hown hh0 W hP
  obtain ⟨rfl, hA, hB, hne, l1, l2, hp⟩ := hP
  have c1 : Steps p.tables e below (s₁.setTop (entryFrame m #[.ref b, .int (Int32.ofNat o), .ref d, .int (Int32.ofNat q), .int (Int32.ofNat len)] 7)) (s₁.setTop (mkF m 0 #[.val (.ref b), .val (.int (Int32.ofNat o)), .val (.ref d), .val (.int (Int32.ofNat q)), .val (.int (Int32.ofNat len)), .unset, .unset] [])) := entry rfl
  have hA0 := hA.1.mv X0.warmed.alike hh0
  have hB0 := hB.mv X0.warmed.alike hh0
  have a31 := hA.1.2.2.2
  have c2 : Steps p.tables e below (s₁.setTop (entryFrame m #[.ref b, .int (Int32.ofNat o), .ref d, .int (Int32.ofNat q), .int (Int32.ofNat len)] 7)) (s₁.setTop (mkF m 3 #[.val (.ref b), .val (.int (Int32.ofNat o)), .val (.ref d), .val (.int (Int32.ofNat q)), .val (.int (Int32.ofNat len)), .val (.int 0), .unset] [])) := c1.trans (by
    refine iconstV X0.here hexec rfl 0 (hb hbytes d0) (by decide) ?_
    refine XS.istore X0.here hexec rfl (hb hbytes d1) rfl rfl ?_
    exact Steps.refl _)
  have loop : ∀ (r i : Nat), i + r = len → ∀ (z : Slot), (z = .unset ∨ ∃ w, z = .val w ∧ w.category = 1) → ∀ (Tl : State) (Bk : Cell), Stand p l e { frames := 0, locals := 0, cells := 0, slots := 0 } s m #[.ref b, .int (Int32.ofNat o), .ref d, .int (Int32.ofNat q), .int (Int32.ofNat len)] below meth c Tl ([] ++ copyLocs d q i) 0 0 → Put d Bk s₁ Tl → Laid B Bk q (q + i) (fun j => Value.int (lo8 (cv A (o + (j - q))))) →
      Steps p.tables e below (s₁.setTop (entryFrame m #[.ref b, .int (Int32.ofNat o), .ref d, .int (Int32.ofNat q), .int (Int32.ofNat len)] 7)) (Tl.setTop (mkF m 3 #[.val (.ref b), .val (.int (Int32.ofNat (o + i))), .val (.ref d), .val (.int (Int32.ofNat (q + i))), .val (.int (Int32.ofNat len)), .val (.int (Int32.ofNat i)), z] [])) → ∃ (T' : State) (B' : Cell) (z' : Slot), Stand p l e { frames := 0, locals := 0, cells := 0, slots := 0 } s m #[.ref b, .int (Int32.ofNat o), .ref d, .int (Int32.ofNat q), .int (Int32.ofNat len)] below meth c T' ([] ++ copyLocs d q len) 0 0 ∧ Put d B' s₁ T' ∧ Laid B B' q (q + len) (fun j => Value.int (lo8 (cv A (o + (j - q))))) ∧
      Steps p.tables e below (s₁.setTop (entryFrame m #[.ref b, .int (Int32.ofNat o), .ref d, .int (Int32.ofNat q), .int (Int32.ofNat len)] 7)) (T'.setTop (mkF m 3 #[.val (.ref b), .val (.int (Int32.ofNat (o + len))), .val (.ref d), .val (.int (Int32.ofNat (q + len))), .val (.int (Int32.ofNat len)), .val (.int (Int32.ofNat len)), z'] [])) := by
    intro r
    induction r with
    | zero =>
      intro i hi z hz Tl Bk Xl pl fl cl
      have hil : i = len := by omega
      rw [hil] at Xl fl cl
      exact ⟨Tl, Bk, z, Xl, pl, fl, cl⟩
    | succ r ih =>
      intro i hi z hz Tl Bk Xl pl fl cl
      have all := X0.warmed.alike.symm.trans Xl.warmed.alike
      have hAl := hA0.keep all (pl.other hne hA0.1)
      have hBk := hB0.like all pl.1 fl.1 fl.2.1 fl.2.2.1
      have hlt : q + i < Bk.slots.size := by rw [fl.2.2.1]; omega
      have c3 : Steps p.tables e below (s₁.setTop (entryFrame m #[.ref b, .int (Int32.ofNat o), .ref d, .int (Int32.ofNat q), .int (Int32.ofNat len)] 7)) (Tl.setTop (mkF m 12 #[.val (.ref b), .val (.int (Int32.ofNat (o + i))), .val (.ref d), .val (.int (Int32.ofNat (q + i))), .val (.int (Int32.ofNat len)), .val (.int (Int32.ofNat i)), z] [.int (Int32.ofNat (o + i)), .ref b])) := cl.trans (by
        refine XS.iload Xl.here hexec rfl (hb hbytes d3) rfl ?_
        refine XS.iload Xl.here hexec rfl (hb hbytes d5) rfl ?_
        refine XS.icmpNo Xl.here hexec rfl (hb hbytes d7) rfl (ii_ge_f (lt32 (by omega) (by omega))) ?_
        refine XS.aloadN Xl.here hexec rfl (hb hbytes d10) rfl rfl ?_
        refine XS.iloadN Xl.here hexec rfl (hb hbytes d11) rfl ?_
        exact Steps.refl _)
      have c4 : Steps p.tables e below (s₁.setTop (entryFrame m #[.ref b, .int (Int32.ofNat o), .ref d, .int (Int32.ofNat q), .int (Int32.ofNat len)] 7)) (Tl.setTop (mkF m 13 #[.val (.ref b), .val (.int (Int32.ofNat (o + i))), .val (.ref d), .val (.int (Int32.ofNat (q + i))), .val (.int (Int32.ofNat len)), .val (.int (Int32.ofNat i)), z] [.int (cv A (o + i))])) := c3.trans (by
        refine Xl.aget hexec hAl rfl (hA.get (i := o + i) (by omega)) rfl rfl (hb hbytes d12) ?_
        exact Steps.refl _)
      have c5 : Steps p.tables e below (s₁.setTop (entryFrame m #[.ref b, .int (Int32.ofNat o), .ref d, .int (Int32.ofNat q), .int (Int32.ofNat len)] 7)) (Tl.setTop (mkF m 15 #[.val (.ref b), .val (.int (Int32.ofNat (o + i))), .val (.ref d), .val (.int (Int32.ofNat (q + i))), .val (.int (Int32.ofNat len)), .val (.int (Int32.ofNat i)), .val (.int (cv A (o + i)))] [])) := c4.trans (by
        refine XS.istoreS Xl.here hexec rfl (hb hbytes d13) rfl rfl hz ?_
        exact Steps.refl _)
      have c6 : Steps p.tables e below (s₁.setTop (entryFrame m #[.ref b, .int (Int32.ofNat o), .ref d, .int (Int32.ofNat q), .int (Int32.ofNat len)] 7)) (Tl.setTop (mkF m 31 #[.val (.ref b), .val (.int (Int32.ofNat (o + i))), .val (.ref d), .val (.int (Int32.ofNat (q + i))), .val (.int (Int32.ofNat len)), .val (.int (Int32.ofNat i)), .val (.int (cv A (o + i)))] [.int (lo8 (cv A (o + i))), .int (Int32.ofNat (q + i)), .ref d])) := c5.trans (by
        refine XS.iload Xl.here hexec rfl (hb hbytes d15) rfl ?_
        refine sipushV Xl.here hexec rfl 255 (hb hbytes d17) (by decide) ?_
        refine XS.icmpYes Xl.here hexec rfl (pc0 := 20) rfl (hb hbytes d20) rfl (ii_le_t (hp i (by omega))) (by decide) rfl ?_
        refine XS.aloadN Xl.here hexec rfl (hb hbytes d26) rfl rfl ?_
        refine XS.iloadN Xl.here hexec rfl (hb hbytes d27) rfl ?_
        refine XS.iload Xl.here hexec rfl (hb hbytes d28) rfl ?_
        refine i2b Xl.here hexec rfl (hb hbytes d30) rfl ?_
        exact Steps.refl _)
      obtain ⟨T7, X7, p7, st7⟩ := Xl.aput hexec hBk rfl hlt rfl (fits_lo8 (cv A (o + i))) (g := (mkF m 31 #[.val (.ref b), .val (.int (Int32.ofNat (o + i))), .val (.ref d), .val (.int (Int32.ofNat (q + i))), .val (.int (Int32.ofNat len)), .val (.int (Int32.ofNat i)), .val (.int (cv A (o + i)))] [.int (lo8 (cv A (o + i))), .int (Int32.ofNat (q + i)), .ref d])) rfl (rest := []) rfl (hb hbytes d31)
      have c8 : Steps p.tables e below (s₁.setTop (entryFrame m #[.ref b, .int (Int32.ofNat o), .ref d, .int (Int32.ofNat q), .int (Int32.ofNat len)] 7)) (T7.setTop (mkF m 32 #[.val (.ref b), .val (.int (Int32.ofNat (o + i))), .val (.ref d), .val (.int (Int32.ofNat (q + i))), .val (.int (Int32.ofNat len)), .val (.int (Int32.ofNat i)), .val (.int (cv A (o + i)))] [])) := c6.trans (st7 _ (Steps.refl _))
      have c9 : Steps p.tables e below (s₁.setTop (entryFrame m #[.ref b, .int (Int32.ofNat o), .ref d, .int (Int32.ofNat q), .int (Int32.ofNat len)] 7)) (T7.setTop (mkF m 3 #[.val (.ref b), .val (.int (Int32.ofNat (o + i) + 1)), .val (.ref d), .val (.int (Int32.ofNat (q + i) + 1)), .val (.int (Int32.ofNat len)), .val (.int (Int32.ofNat i + 1)), .val (.int (cv A (o + i)))] [])) := c8.trans (by
        refine iincV X7.here hexec rfl 1 (hb hbytes d32) (by decide) rfl rfl ?_
        refine iincV X7.here hexec rfl 1 (hb hbytes d35) (by decide) rfl rfl ?_
        refine iincV X7.here hexec rfl 1 (hb hbytes d38) (by decide) rfl rfl ?_
        refine XS.goto X7.here hexec rfl (pc0 := 41) rfl (hb hbytes d41) (by decide) rfl ?_
        exact Steps.refl _)
      have c10 : Steps p.tables e below (s₁.setTop (entryFrame m #[.ref b, .int (Int32.ofNat o), .ref d, .int (Int32.ofNat q), .int (Int32.ofNat len)] 7)) (T7.setTop (mkF m 3 #[.val (.ref b), .val (.int (Int32.ofNat (o + (i + 1)))), .val (.ref d), .val (.int (Int32.ofNat (q + (i + 1)))), .val (.int (Int32.ofNat len)), .val (.int (Int32.ofNat (i + 1))), .val (.int (cv A (o + i)))] [])) := by
        have := c9
        rw [succ32, succ32, succ32] at this
        exact this
      exact ih (i + 1) (by omega) _ (Or.inr ⟨_, rfl, rfl⟩) T7 _ (by rw [copyLocs_step, ← List.append_assoc]; exact X7) (pl.trans p7) (fl.step (by omega) hlt (by simp)) c10
  obtain ⟨T9, B9, z9, X9, p9, f9, g9⟩ := loop len 0 (by omega) .unset (Or.inl rfl) s₁ B (by simpa [copyLocs] using X0) ⟨hB0.1, fun _ _ => rfl, rfl⟩ (Laid.zero _ _ _) c2
  have c11 : Steps p.tables e below (s₁.setTop (entryFrame m #[.ref b, .int (Int32.ofNat o), .ref d, .int (Int32.ofNat q), .int (Int32.ofNat len)] 7)) (T9.setTop (mkF m 46 #[.val (.ref b), .val (.int (Int32.ofNat (o + len))), .val (.ref d), .val (.int (Int32.ofNat (q + len))), .val (.int (Int32.ofNat len)), .val (.int (Int32.ofNat len)), z9] [.int (Int32.ofNat len)])) := g9.trans (by
    refine XS.iload X9.here hexec rfl (hb hbytes d3) rfl ?_
    refine XS.iload X9.here hexec rfl (hb hbytes d5) rfl ?_
    refine XS.icmpYes X9.here hexec rfl (pc0 := 7) rfl (hb hbytes d7) rfl (ii_ge_t (nlt32 (by omega) (Nat.le_refl _))) (by decide) rfl ?_
    refine XS.iload X9.here hexec rfl (hb hbytes d44) rfl ?_
    exact Steps.refl _)
  exact ⟨T9, some (.int (Int32.ofNat len)), _, _, _, X9, by simp, rfl, rfl, (fun h => by cases h), ⟨rfl, B9, p9.from hh0, f9⟩, fun fs hl => c11.trans (X9.ireturnOut hexec hret rfl (Or.inl rfl) (hb hbytes d46) hl)⟩
end Cmp5
namespace Cmp3
def yN : MethodName := ⟨"java/lang/StringUTF16", "compress", "([CII)[B"⟩
abbrev yB : ByteArray := jdk_52_method_16_code
theorem d0 : decode yB 0 = .ok (.iload_n 2, 1) := by decide +kernel
theorem d1 : decode yB 1 = .ok (.newarray .byte, 2) := by decide +kernel
theorem d3 : decode yB 3 = .ok (.astore_n 3, 1) := by decide +kernel
theorem d4 : decode yB 4 = .ok (.aload_n 0, 1) := by decide +kernel
theorem d5 : decode yB 5 = .ok (.iload_n 1, 1) := by decide +kernel
theorem d6 : decode yB 6 = .ok (.aload_n 3, 1) := by decide +kernel
theorem d7 : decode yB 7 = .ok (.iconst 0, 1) := by decide +kernel
theorem d8 : decode yB 8 = .ok (.iload_n 2, 1) := by decide +kernel
theorem d9 : decode yB 9 = .ok (.invokestatic 115, 3) := by decide +kernel
theorem d12 : decode yB 12 = .ok (.istore 4, 2) := by decide +kernel
theorem d14 : decode yB 14 = .ok (.iload 4, 2) := by decide +kernel
theorem d16 : decode yB 16 = .ok (.iload_n 2, 1) := by decide +kernel
theorem d17 : decode yB 17 = .ok (.if_icmp (.eq) 40, 3) := by decide +kernel
theorem d57 : decode yB 57 = .ok (.aload_n 3, 1) := by decide +kernel
theorem d58 : decode yB 58 = .ok (.areturn, 1) := by decide +kernel
def site : List Cond := [.arrayClass .byte, Cmp5.tab] ++ staticW U16 115 Cmp5.yN
def tab : Cond := tabOf yN yB 6 (some (.array .byte)) site
def P (b : Addr) (A : Cell) (o len : Nat) (args : Array Value) (s : State) : Prop := args = #[.ref b, .int (Int32.ofNat o), .int (Int32.ofNat len)] ∧ Ch b A s ∧ o + len ≤ A.slots.size ∧ len ≤ 536870912 ∧ ∀ i, i < len → ¬ 255 < cv A (o + i)
def E (b : Addr) (A : Cell) (o len : Nat) (r : Option Value) (s u : State) : Prop := NewArr .byte "[B" len (fun j => .int (lo8 (cv A (o + j)))) r s u ∧ u.heap.size = s.heap.size + 1
/-- no char of the range above 255: a new byte[] of their low bytes -/
theorem law (l : Launch) (b : Addr) (A : Cell) (o len : Nat) : Law l yN 3 3 1 18 yB 6 (some (.array .byte)) site (P b A o len) (E b A o len) [] 1 len := by
  refine Law.of_walk (plainFor_of_name (by decide +kernel)) (by decide +kernel) (by decide +kernel) (by decide) (fun _ _ h => by rw [h.1]; rfl) (fun _ U U' hal hh h => ⟨h.1, h.2.1.mv hal hh, h.2.2⟩) (fun r U U' V V' h1 hal h2 h => ⟨NewArr.mv r U U' V V' h1 hal h2 h.1, by rw [h1, h2]; exact h.2⟩) ?_
  intro p e s m args below meth c s₁ X0 hexec hbytes hml hret hlk hnm hown hh0 W hP
  obtain ⟨rfl, hA, l1, l2, hp⟩ := hP
  have a31 := hA.1.2.2.2
  have c1 : Steps p.tables e below (s₁.setTop (entryFrame m #[.ref b, .int (Int32.ofNat o), .int (Int32.ofNat len)] 6)) (s₁.setTop (mkF m 0 #[.val (.ref b), .val (.int (Int32.ofNat o)), .val (.int (Int32.ofNat len)), .unset, .unset, .unset] [])) := entry rfl
  have c2 : Steps p.tables e below (s₁.setTop (entryFrame m #[.ref b, .int (Int32.ofNat o), .int (Int32.ofNat len)] 6)) (s₁.setTop (mkF m 1 #[.val (.ref b), .val (.int (Int32.ofNat o)), .val (.int (Int32.ofNat len)), .unset, .unset, .unset] [.int (Int32.ofNat len)])) := c1.trans (by
    refine XS.iloadN X0.here hexec rfl (hb hbytes d0) rfl ?_
    exact Steps.refl _)
  obtain ⟨T3, B3, X3, ba3, bs3, bv3, bh3, bf3, st3⟩ := X0.anew hexec (atype := .byte) (wk W (.arrayClass .byte)) rfl (by show len * 1 ≤ _; omega) (by omega) (g := (mkF m 1 #[.val (.ref b), .val (.int (Int32.ofNat o)), .val (.int (Int32.ofNat len)), .unset, .unset, .unset] [.int (Int32.ofNat len)])) rfl (hb hbytes d1) (rest := []) rfl (Nat.le_refl _) (by show 0 + len ≤ len; omega)
  rw [hh0] at ba3 st3
  have kp3 : XT.Kept s T3 := (XT.Kept.of_eq hh0).push bh3
  have hA3 := hA.keep X3.warmed.alike (kp3 _ _ hA.1.1)
  have hne : b ≠ s.heap.size := hA.1.ne
  have c4 : Steps p.tables e below (s₁.setTop (entryFrame m #[.ref b, .int (Int32.ofNat o), .int (Int32.ofNat len)] 6)) (T3.setTop (mkF m 3 #[.val (.ref b), .val (.int (Int32.ofNat o)), .val (.int (Int32.ofNat len)), .unset, .unset, .unset] [.ref s.heap.size])) := c2.trans (st3 _ (Steps.refl _))
  have c5 : Steps p.tables e below (s₁.setTop (entryFrame m #[.ref b, .int (Int32.ofNat o), .int (Int32.ofNat len)] 6)) (T3.setTop (mkF m 9 #[.val (.ref b), .val (.int (Int32.ofNat o)), .val (.int (Int32.ofNat len)), .val (.ref s.heap.size), .unset, .unset] [.int (Int32.ofNat len), .int 0, .ref s.heap.size, .int (Int32.ofNat o), .ref b])) := c4.trans (by
    refine XS.astoreN X3.here hexec rfl (hb hbytes d3) rfl rfl rfl ?_
    refine XS.aloadN X3.here hexec rfl (hb hbytes d4) rfl rfl ?_
    refine XS.iloadN X3.here hexec rfl (hb hbytes d5) rfl ?_
    refine XS.aloadN X3.here hexec rfl (hb hbytes d6) rfl rfl ?_
    refine iconstV X3.here hexec rfl 0 (hb hbytes d7) (by decide) ?_
    refine XS.iloadN X3.here hexec rfl (hb hbytes d8) rfl ?_
    exact Steps.refl _)
  obtain ⟨v6, T6, X6, E6, g6⟩ := X3.callS hexec (Cmp5.law l b A s.heap.size B3 o 0 len) hown (wks W (staticW U16 115 Cmp5.yN)) (wk W Cmp5.tab) (W := 0) (Nat.le_of_ble_eq_true rfl) (Nat.le_of_ble_eq_true rfl) (Nat.le_refl _) (by show 0 + len + 0 ≤ len; omega) (g := (mkF m 9 #[.val (.ref b), .val (.int (Int32.ofNat o)), .val (.int (Int32.ofNat len)), .val (.ref s.heap.size), .unset, .unset] [.int (Int32.ofNat len), .int (Int32.ofNat 0), .ref s.heap.size, .int (Int32.ofNat o), .ref b])) rfl (by rw [hml]; rfl) c5 (argsL := [.ref b, .int (Int32.ofNat o), .ref s.heap.size, .int (Int32.ofNat 0), .int (Int32.ofNat len)]) (rest := []) rfl rfl (by show 2 * 0 + 0 ≤ _; decide) (hb hbytes d9) (⟨rfl, hA3, ba3, hne, l1, by rw [bs3]; simp, hp⟩)
  obtain ⟨rfl, B6, p6, f6⟩ := E6
  have c7 : Steps p.tables e below (s₁.setTop (entryFrame m #[.ref b, .int (Int32.ofNat o), .int (Int32.ofNat len)] 6)) (T6.setTop (mkF m 12 #[.val (.ref b), .val (.int (Int32.ofNat o)), .val (.int (Int32.ofNat len)), .val (.ref s.heap.size), .unset, .unset] [.int (Int32.ofNat len)])) := g6
  have c8 : Steps p.tables e below (s₁.setTop (entryFrame m #[.ref b, .int (Int32.ofNat o), .int (Int32.ofNat len)] 6)) (T6.setTop (mkF m 58 #[.val (.ref b), .val (.int (Int32.ofNat o)), .val (.int (Int32.ofNat len)), .val (.ref s.heap.size), .val (.int (Int32.ofNat len)), .unset] [.ref s.heap.size])) := c7.trans (by
    refine XS.istore X6.here hexec rfl (hb hbytes d12) rfl rfl ?_
    refine XS.iload X6.here hexec rfl (hb hbytes d14) rfl ?_
    refine XS.iloadN X6.here hexec rfl (hb hbytes d16) rfl ?_
    refine XS.icmpYes X6.here hexec rfl (pc0 := 17) rfl (hb hbytes d17) rfl (ii_eq_t rfl) (by decide) rfl ?_
    refine XS.aloadN X6.here hexec rfl (hb hbytes d57) rfl rfl ?_
    exact Steps.refl _)
  have X8 := X6.wide (L' := []) (cells' := 1) (slots' := len) (fun x hx hlt => by
    simp only [List.nil_append, copyLocs, List.mem_map, List.mem_range] at hx
    obtain ⟨i, -, rfl⟩ := hx
    exact absurd hlt (Nat.lt_irrefl _)) (Nat.le_refl _) (by omega)
  exact ⟨T6, some (.ref s.heap.size), _, _, _, X8, rfl, rfl, rfl, (fun h => by cases h), ⟨⟨rfl, B6, ba3.like (X3.warmed.alike.symm.trans X6.warmed.alike) p6.1 f6.1 f6.2.1 f6.2.2.1, f6.2.1.trans bv3, by rw [X6.warmed.alike.findClass, f6.1]; exact bf3, by rw [f6.2.2.1, bs3]; simp, fun j hj => by rw [f6.2.2.2 j, if_pos (by omega)]; rfl, kp3.put p6 (Nat.le_refl _)⟩, by rw [p6.2.2, bh3, hh0]; simp⟩, fun fs hl => c8.trans (X8.areturnOut hexec rfl hret rfl (hb hbytes d58) hl)⟩
end Cmp3
namespace CodL
def yN : MethodName := ⟨"java/lang/StringUTF16", "coderFromArrayLen", "([BI)B"⟩
abbrev yB : ByteArray := jdk_52_method_15_code
theorem d0 : decode yB 0 = .ok (.iload_n 1, 1) := by decide +kernel
theorem d1 : decode yB 1 = .ok (.aload_n 0, 1) := by decide +kernel
theorem d2 : decode yB 2 = .ok (.arraylength, 1) := by decide +kernel
theorem d3 : decode yB 3 = .ok (.isub, 1) := by decide +kernel
theorem d4 : decode yB 4 = .ok (.bipush 31, 2) := by decide +kernel
theorem d6 : decode yB 6 = .ok (.iushr, 1) := by decide +kernel
theorem d7 : decode yB 7 = .ok (.i2b, 1) := by decide +kernel
theorem d8 : decode yB 8 = .ok (.ireturn, 1) := by decide +kernel
def site : List Cond := []
def tab : Cond := tabOf yN yB 2 (some .byte) site
def P (d : Addr) (B : Cell) (args : Array Value) (s : State) : Prop := args = #[.ref d, .int (Int32.ofNat B.slots.size)] ∧ Arr .byte d B s
def E (r : Option Value) (s u : State) : Prop := XT.PureE (some (.int 0)) r s u
/-- an array as long as the number of chars: LATIN1 -/
theorem law (l : Launch) (d : Addr) (B : Cell) : Law l yN 2 2 0 0 yB 2 (some .byte) site (P d B) E [] 0 0 := by
  refine Law.of_walk (plainFor_of_name (by decide +kernel)) (by decide +kernel) (by decide +kernel) (by decide) (fun _ _ h => by rw [h.1]; rfl) (fun _ U U' hal hh h => ⟨h.1, h.2.mv hal hh⟩) (fun r U U' V V' h1 hal h2 h => XT.PureE.mv r U U' V V' h1 hal h2 h) ?_
  intro p e s m args below meth c s₁ X0 hexec hbytes hml hret hlk hnm hown hh0 W hP
  obtain ⟨rfl, hB⟩ := hP
  have hB0 := hB.mv X0.warmed.alike hh0
  have c1 : Steps p.tables e below (s₁.setTop (entryFrame m #[.ref d, .int (Int32.ofNat B.slots.size)] 2)) (s₁.setTop (mkF m 0 #[.val (.ref d), .val (.int (Int32.ofNat B.slots.size))] [])) := entry rfl
  have c2 : Steps p.tables e below (s₁.setTop (entryFrame m #[.ref d, .int (Int32.ofNat B.slots.size)] 2)) (s₁.setTop (mkF m 2 #[.val (.ref d), .val (.int (Int32.ofNat B.slots.size))] [.ref d, .int (Int32.ofNat B.slots.size)])) := c1.trans (by
    refine XS.iloadN X0.here hexec rfl (hb hbytes d0) rfl ?_
    refine XS.aloadN X0.here hexec rfl (hb hbytes d1) rfl rfl ?_
    exact Steps.refl _)
  have c3 : Steps p.tables e below (s₁.setTop (entryFrame m #[.ref d, .int (Int32.ofNat B.slots.size)] 2)) (s₁.setTop (mkF m 8 #[.val (.ref d), .val (.int (Int32.ofNat B.slots.size))] [.int (lo8 (ushr (Int32.ofNat B.slots.size - Int32.ofNat B.slots.size) 31))])) := c2.trans (by
    refine X0.alen hexec hB0 rfl rfl (hb hbytes d2) ?_
    refine XS.isub X0.here hexec rfl (hb hbytes d3) rfl ?_
    refine bipushV X0.here hexec rfl 31 (hb hbytes d4) (by decide) ?_
    refine iushr X0.here hexec rfl (hb hbytes d6) rfl ?_
    refine i2b X0.here hexec rfl (hb hbytes d7) rfl ?_
    exact Steps.refl _)
  have e0 : lo8 (ushr (Int32.ofNat B.slots.size - Int32.ofNat B.slots.size) 31) = 0 := by rw [Int32.sub_self]; decide
  rw [e0] at c3
  exact ⟨s₁, some (.int 0), _, _, _, X0, rfl, rfl, rfl, (fun h => by cases h), ⟨rfl, hh0⟩, fun fs hl => c3.trans (X0.ireturnOut hexec hret rfl (Or.inr (Or.inr (Or.inl rfl))) (hb hbytes d8) hl)⟩
end CodL
/-- the String at a is Latin-1 over a new byte[] (the heap's one new cell): the low bytes of the len chars of A from o on; every cell but a is kept -/
def Got (a : Addr) (D : Cell) (fV fC : Field) (A : Cell) (o len : Nat) (r : Option Value) (s u : State) : Prop := r = none ∧ ∃ D' V : Cell, Blank "java/lang/String" a D' u ∧ Same D D' [fV.slot, fC.slot] ∧ D'.slots[fV.slot]? = some (.ref s.heap.size) ∧ D'.slots[fC.slot]? = some (.int 0) ∧ Arr .byte s.heap.size V u ∧ V.vm = .none ∧ u.vm.findClass "[B" = some V.cls ∧ V.slots.size = len ∧ (∀ j, j < len → V.slots[j]? = some (.int (lo8 (cv A (o + j))))) ∧ (∀ (y : Addr) (c : Cell), y ≠ a → s.heap[y]? = some c → u.heap[y]? = some c) ∧ u.heap.size = s.heap.size + 1
theorem Got.mv {a : Addr} {D A : Cell} {fV fC : Field} {o len : Nat} : ∀ r (U U' V V' : State), U'.heap = U.heap → V.vm.Alike V'.vm → V'.heap = V.heap → Got a D fV fC A o len r U V → Got a D fV fC A o len r U' V' :=
  fun r U U' V V' h1 hal h2 ⟨e0, D', X, a1, a2, a3, a4, a5, a6, a7, a8, a9, a10, a11⟩ => ⟨e0, D', X, a1.mv hal h2, a2, by rw [h1]; exact a3, a4, by rw [h1]; exact a5.mv hal h2, a6, by rw [hal.findClass]; exact a7, a8, a9, by rw [h1, h2]; exact a10, by rw [h1, h2]; exact a11⟩
namespace New4
def yN : MethodName := ⟨"java/lang/String", "<init>", "([CIILjava/lang/Void;)V"⟩
abbrev yB : ByteArray := jdk_42_method_149_code
theorem d0 : decode yB 0 = .ok (.aload_n 0, 1) := by decide +kernel
theorem d1 : decode yB 1 = .ok (.invokespecial 1, 3) := by decide +kernel
theorem d4 : decode yB 4 = .ok (.iload_n 3, 1) := by decide +kernel
theorem d5 : decode yB 5 = .ok (.ifCond (.ne) 22, 3) := by decide +kernel
theorem d27 : decode yB 27 = .ok (.getstatic 38, 3) := by decide +kernel
theorem d30 : decode yB 30 = .ok (.ifCond (.eq) 28, 3) := by decide +kernel
theorem d33 : decode yB 33 = .ok (.aload_n 1, 1) := by decide +kernel
theorem d34 : decode yB 34 = .ok (.iload_n 2, 1) := by decide +kernel
theorem d35 : decode yB 35 = .ok (.iload_n 3, 1) := by decide +kernel
theorem d36 : decode yB 36 = .ok (.invokestatic 177, 3) := by decide +kernel
theorem d39 : decode yB 39 = .ok (.astore 5, 2) := by decide +kernel
theorem d41 : decode yB 41 = .ok (.aload_n 0, 1) := by decide +kernel
theorem d42 : decode yB 42 = .ok (.aload 5, 2) := by decide +kernel
theorem d44 : decode yB 44 = .ok (.iload_n 3, 1) := by decide +kernel
theorem d45 : decode yB 45 = .ok (.invokestatic 47, 3) := by decide +kernel
theorem d48 : decode yB 48 = .ok (.putfield 15, 3) := by decide +kernel
theorem d51 : decode yB 51 = .ok (.aload_n 0, 1) := by decide +kernel
theorem d52 : decode yB 52 = .ok (.aload 5, 2) := by decide +kernel
theorem d54 : decode yB 54 = .ok (.putfield 9, 3) := by decide +kernel
theorem d57 : decode yB 57 = .ok (.return_, 1) := by decide +kernel
def site : List Cond := [.fieldLink "java/lang/String" 38 "java/lang/String" "COMPACT_STRINGS" "Z", Cmp3.tab, CodL.tab, .laysFinal "java/lang/String" "java/lang/String" "value" "[B", .fieldLink "java/lang/String" 9 "java/lang/String" "value" "[B", .laysFinal "java/lang/String" "java/lang/String" "coder" "B", .fieldLink "java/lang/String" 15 "java/lang/String" "coder" "B"] ++ objW "java/lang/String" 1 ++ staticW "java/lang/String" 177 Cmp3.yN ++ staticW "java/lang/String" 47 CodL.yN
def tab : Cond := tabOf yN yB 6 none site
def P (a : Addr) (D : Cell) (fV fC : Field) (b : Addr) (A : Cell) (z : Int32) (o len : Nat) (args : Array Value) (s : State) : Prop := args = #[.ref a, .ref b, .int (Int32.ofNat o), .int (Int32.ofNat len), .null] ∧ Blank "java/lang/String" a D s ∧ Found "java/lang/String" "value" "[B" fV s ∧ Found "java/lang/String" "coder" "B" fC s ∧ Ch b A s ∧ StaticIs s "java/lang/String" "COMPACT_STRINGS" "Z" (.int z) ∧ ¬ z = 0 ∧ 0 < len ∧ o + len ≤ A.slots.size ∧ len ≤ 536870912 ∧ ∀ i, i < len → ¬ 255 < cv A (o + i)
def E (a : Addr) (D : Cell) (fV fC : Field) (A : Cell) (o len : Nat) (r : Option Value) (s u : State) : Prop := Got a D fV fC A o len r s u
/-- len > 0, no char of the range above 255: a Latin-1 String of their low bytes -/
theorem law (l : Launch) (a : Addr) (D : Cell) (fV fC : Field) (b : Addr) (A : Cell) (z : Int32) (o len : Nat) : Law l yN 5 4 2 35 yB 6 none site (P a D fV fC b A z o len) (E a D fV fC A o len) [⟨a, fC.slot⟩, ⟨a, fV.slot⟩] 1 len := by
  refine Law.of_walk (plainFor_of_name (by decide +kernel)) (by decide +kernel) (by decide +kernel) (by decide) (fun _ _ h => by rw [h.1]; rfl) (fun _ U U' hal hh h => ⟨h.1, h.2.1.mv hal hh, h.2.2.1.al hal, h.2.2.2.1.al hal, h.2.2.2.2.1.mv hal hh, h.2.2.2.2.2.1.there hal hh, h.2.2.2.2.2.2⟩) (fun r U U' V V' h1 hal h2 h => Got.mv r U U' V V' h1 hal h2 h) ?_
  intro p e s m args below meth c s₁ X0 hexec hbytes hml hret hlk hnm hown hh0 W hP
  obtain ⟨rfl, hB, f1, f2, hA, s1, hz, l0, l1, l2, hp⟩ := hP
  have a31 := hA.1.2.2.2
  have c1 : Steps p.tables e below (s₁.setTop (entryFrame m #[.ref a, .ref b, .int (Int32.ofNat o), .int (Int32.ofNat len), .null] 6)) (s₁.setTop (mkF m 0 #[.val (.ref a), .val (.ref b), .val (.int (Int32.ofNat o)), .val (.int (Int32.ofNat len)), .val .null, .unset] [])) := entry rfl
  have c2 : Steps p.tables e below (s₁.setTop (entryFrame m #[.ref a, .ref b, .int (Int32.ofNat o), .int (Int32.ofNat len), .null] 6)) (s₁.setTop (mkF m 1 #[.val (.ref a), .val (.ref b), .val (.int (Int32.ofNat o)), .val (.int (Int32.ofNat len)), .val .null, .unset] [.ref a])) := c1.trans (by
    refine XS.aloadN X0.here hexec rfl (hb hbytes d0) rfl rfl ?_
    exact Steps.refl _)
  obtain ⟨T3, X3, q3, st3⟩ := X0.oinit hexec hown (wks W (objW "java/lang/String" 1)) (g := (mkF m 1 #[.val (.ref a), .val (.ref b), .val (.int (Int32.ofNat o)), .val (.int (Int32.ofNat len)), .val .null, .unset] [.ref a])) rfl (by rw [hml]; rfl) (rest := []) rfl (hb hbytes d1) (W := 0) (by show 2 * 0 + 0 ≤ _; decide) (Nat.le_of_ble_eq_true rfl) (Nat.le_of_ble_eq_true rfl)
  have hh3 := q3.trans hh0
  have c4 : Steps p.tables e below (s₁.setTop (entryFrame m #[.ref a, .ref b, .int (Int32.ofNat o), .int (Int32.ofNat len), .null] 6)) (T3.setTop (mkF m 27 #[.val (.ref a), .val (.ref b), .val (.int (Int32.ofNat o)), .val (.int (Int32.ofNat len)), .val .null, .unset] [])) := (c2.trans (st3 _ (Steps.refl _))).trans (by
    refine XS.iloadN X3.here hexec rfl (hb hbytes d4) rfl ?_
    refine XS.ifYes X3.here hexec rfl (pc0 := 5) rfl (hb hbytes d5) rfl (i0_ne_t (nz32 (by omega) l0)) (by decide) rfl ?_
    exact Steps.refl _)
  obtain ⟨T5, X5, q5, st5⟩ := X3.sget hexec hown (wk W (.fieldLink "java/lang/String" 38 "java/lang/String" "COMPACT_STRINGS" "Z")) s1 (fun _ _ h => by rw [hh3]; exact h) (g := (mkF m 27 #[.val (.ref a), .val (.ref b), .val (.int (Int32.ofNat o)), .val (.int (Int32.ofNat len)), .val .null, .unset] [])) rfl (hb hbytes d27)
  have hh5 := q5.trans hh3
  have c6 : Steps p.tables e below (s₁.setTop (entryFrame m #[.ref a, .ref b, .int (Int32.ofNat o), .int (Int32.ofNat len), .null] 6)) (T5.setTop (mkF m 30 #[.val (.ref a), .val (.ref b), .val (.int (Int32.ofNat o)), .val (.int (Int32.ofNat len)), .val .null, .unset] [.int z])) := c4.trans (st5 _ (Steps.refl _))
  have c7 : Steps p.tables e below (s₁.setTop (entryFrame m #[.ref a, .ref b, .int (Int32.ofNat o), .int (Int32.ofNat len), .null] 6)) (T5.setTop (mkF m 36 #[.val (.ref a), .val (.ref b), .val (.int (Int32.ofNat o)), .val (.int (Int32.ofNat len)), .val .null, .unset] [.int (Int32.ofNat len), .int (Int32.ofNat o), .ref b])) := c6.trans (by
    refine XS.ifNo X5.here hexec rfl (hb hbytes d30) rfl (i0_eq_f hz) ?_
    refine XS.aloadN X5.here hexec rfl (hb hbytes d33) rfl rfl ?_
    refine XS.iloadN X5.here hexec rfl (hb hbytes d34) rfl ?_
    refine XS.iloadN X5.here hexec rfl (hb hbytes d35) rfl ?_
    exact Steps.refl _)
  obtain ⟨v8, T8, X8, E8, g8⟩ := X5.callS hexec (Cmp3.law l b A o len) hown (wks W (staticW "java/lang/String" 177 Cmp3.yN)) (wk W Cmp3.tab) (W := 0) (Nat.le_of_ble_eq_true rfl) (Nat.le_of_ble_eq_true rfl) (Nat.le_refl _) (by show 0 + len ≤ len; omega) (g := (mkF m 36 #[.val (.ref a), .val (.ref b), .val (.int (Int32.ofNat o)), .val (.int (Int32.ofNat len)), .val .null, .unset] [.int (Int32.ofNat len), .int (Int32.ofNat o), .ref b])) rfl (by rw [hml]; rfl) c7 (argsL := [.ref b, .int (Int32.ofNat o), .int (Int32.ofNat len)]) (rest := []) rfl rfl (by show 2 * 0 + 0 ≤ _; decide) (hb hbytes d36) (⟨rfl, hA.mv X5.warmed.alike hh5, l1, l2, hp⟩)
  obtain ⟨e8, z8⟩ := E8
  obtain ⟨rfl, N, n1, n2, n3, n4, n5, n6⟩ := NewArr.mv _ T5 s _ _ hh5.symm (Vm.Alike.refl _) rfl e8
  rw [hh5] at z8
  have hB1 := hB.keep X8.warmed.alike (n6 _ _ hB.1)
  have hne : s.heap.size ≠ a := (Nat.ne_of_lt (Array.getElem?_eq_some_iff.mp hB.1).1).symm
  have c9 : Steps p.tables e below (s₁.setTop (entryFrame m #[.ref a, .ref b, .int (Int32.ofNat o), .int (Int32.ofNat len), .null] 6)) (T8.setTop (mkF m 39 #[.val (.ref a), .val (.ref b), .val (.int (Int32.ofNat o)), .val (.int (Int32.ofNat len)), .val .null, .unset] [.ref s.heap.size])) := g8
  have c10 : Steps p.tables e below (s₁.setTop (entryFrame m #[.ref a, .ref b, .int (Int32.ofNat o), .int (Int32.ofNat len), .null] 6)) (T8.setTop (mkF m 45 #[.val (.ref a), .val (.ref b), .val (.int (Int32.ofNat o)), .val (.int (Int32.ofNat len)), .val .null, .val (.ref s.heap.size)] [.int (Int32.ofNat N.slots.size), .ref s.heap.size, .ref a])) := by
    have hc : Steps p.tables e below (s₁.setTop (entryFrame m #[.ref a, .ref b, .int (Int32.ofNat o), .int (Int32.ofNat len), .null] 6)) (T8.setTop (mkF m 45 #[.val (.ref a), .val (.ref b), .val (.int (Int32.ofNat o)), .val (.int (Int32.ofNat len)), .val .null, .val (.ref s.heap.size)] [.int (Int32.ofNat len), .ref s.heap.size, .ref a])) := c9.trans (by
      refine XS.astore X8.here hexec rfl (hb hbytes d39) rfl rfl rfl ?_
      refine XS.aloadN X8.here hexec rfl (hb hbytes d41) rfl rfl ?_
      refine XS.aload X8.here hexec rfl (hb hbytes d42) rfl rfl ?_
      refine XS.iloadN X8.here hexec rfl (hb hbytes d44) rfl ?_
      exact Steps.refl _)
    rw [n4]; exact hc
  obtain ⟨v11, T11, X11, E11, g11⟩ := X8.callS hexec (CodL.law l s.heap.size N) hown (wks W (staticW "java/lang/String" 47 CodL.yN)) (wk W CodL.tab) (W := 1) (Nat.le_of_ble_eq_true rfl) (Nat.le_of_ble_eq_true rfl) (Nat.le_refl _) (by show 0 + len + 0 ≤ len; omega) (g := (mkF m 45 #[.val (.ref a), .val (.ref b), .val (.int (Int32.ofNat o)), .val (.int (Int32.ofNat len)), .val .null, .val (.ref s.heap.size)] [.int (Int32.ofNat N.slots.size), .ref s.heap.size, .ref a])) rfl (by rw [hml]; rfl) c10 (argsL := [.ref s.heap.size, .int (Int32.ofNat N.slots.size)]) (rest := [.ref a]) rfl rfl (by show 2 * 0 + (1 + 0) ≤ _; decide) (hb hbytes d45) (⟨rfl, n1⟩)
  obtain ⟨rfl, q11⟩ := E11
  have hB11 := hB1.mv (X8.warmed.alike.symm.trans X11.warmed.alike) q11
  have c12 : Steps p.tables e below (s₁.setTop (entryFrame m #[.ref a, .ref b, .int (Int32.ofNat o), .int (Int32.ofNat len), .null] 6)) (T11.setTop (mkF m 48 #[.val (.ref a), .val (.ref b), .val (.int (Int32.ofNat o)), .val (.int (Int32.ofNat len)), .val .null, .val (.ref s.heap.size)] [.int 0, .ref a])) := g11
  obtain ⟨T13, X13, p13, bl13, sl13, st13⟩ := X11.finit hexec hown (wk W (.fieldLink "java/lang/String" 15 "java/lang/String" "coder" "B")) (Or.inr ⟨_, (wk W (.laysFinal "java/lang/String" "java/lang/String" "coder" "B"))⟩) (Or.inl ⟨rfl, hnm⟩) f2 (Or.inl rfl) hB11 (t := .byte) (by decide +kernel) rfl (g := (mkF m 48 #[.val (.ref a), .val (.ref b), .val (.int (Int32.ofNat o)), .val (.int (Int32.ofNat len)), .val .null, .val (.ref s.heap.size)] [.int 0, .ref a])) rfl (rest := []) rfl (hb hbytes d48)
  have c14 : Steps p.tables e below (s₁.setTop (entryFrame m #[.ref a, .ref b, .int (Int32.ofNat o), .int (Int32.ofNat len), .null] 6)) (T13.setTop (mkF m 54 #[.val (.ref a), .val (.ref b), .val (.int (Int32.ofNat o)), .val (.int (Int32.ofNat len)), .val .null, .val (.ref s.heap.size)] [.ref s.heap.size, .ref a])) := (c12.trans (st13 _ (Steps.refl _))).trans (by
    refine XS.aloadN X13.here hexec rfl (hb hbytes d51) rfl rfl ?_
    refine XS.aload X13.here hexec rfl (hb hbytes d52) rfl rfl ?_
    exact Steps.refl _)
  obtain ⟨T15, X15, p15, bl15, sl15, st15⟩ := X13.finit hexec hown (wk W (.fieldLink "java/lang/String" 9 "java/lang/String" "value" "[B")) (Or.inr ⟨_, (wk W (.laysFinal "java/lang/String" "java/lang/String" "value" "[B"))⟩) (Or.inl ⟨rfl, hnm⟩) f1 (Or.inl rfl) bl13 (t := (.array .byte)) (by decide +kernel) rfl (g := (mkF m 54 #[.val (.ref a), .val (.ref b), .val (.int (Int32.ofNat o)), .val (.int (Int32.ofNat len)), .val .null, .val (.ref s.heap.size)] [.ref s.heap.size, .ref a])) rfl (rest := []) rfl (hb hbytes d54)
  have c16 : Steps p.tables e below (s₁.setTop (entryFrame m #[.ref a, .ref b, .int (Int32.ofNat o), .int (Int32.ofNat len), .null] 6)) (T15.setTop (mkF m 57 #[.val (.ref a), .val (.ref b), .val (.int (Int32.ofNat o)), .val (.int (Int32.ofNat len)), .val .null, .val (.ref s.heap.size)] [])) := c14.trans (st15 _ (Steps.refl _))
  have ap := apart (Or.inr ⟨_, (wk W (.laysFinal "java/lang/String" "java/lang/String" "value" "[B"))⟩) (Or.inr ⟨_, (wk W (.laysFinal "java/lang/String" "java/lang/String" "coder" "B"))⟩) f1 f2 (t₁ := .array .byte) (t₂ := .byte) (by decide +kernel) (by decide +kernel) (by decide)
  have al := X8.warmed.alike.symm.trans X15.warmed.alike
  have n7 : T11.heap[s.heap.size]? = some N := by rw [q11]; exact n1.1
  exact ⟨T15, none, _, _, _, X15, by simp, rfl, by omega, (fun _ => rfl), ⟨rfl, _, N, bl15, ((Same.refl D _).set _ (by simp)).set _ (by simp), sl15, (Cell.slots_setSlot_ne _ ap).trans sl13, n1.keep al (p15.other hne (p13.other hne n7)), n2, by rw [al.findClass]; exact n3, n4, n5, fun y c h1 h2 => p15.other h1 (p13.other h1 (by rw [q11]; exact n6 y c h2)), by rw [p15.2.2, p13.2.2, q11]; exact z8⟩, fun fs hl => c16.trans (X15.returnOut hexec hret (hb hbytes d57) hl)⟩
end New4
namespace New1
def yN : MethodName := ⟨"java/lang/String", "<init>", "([C)V"⟩
abbrev yB : ByteArray := jdk_42_method_3_code
theorem d0 : decode yB 0 = .ok (.aload_n 0, 1) := by decide +kernel
theorem d1 : decode yB 1 = .ok (.aload_n 1, 1) := by decide +kernel
theorem d2 : decode yB 2 = .ok (.iconst 0, 1) := by decide +kernel
theorem d3 : decode yB 3 = .ok (.aload_n 1, 1) := by decide +kernel
theorem d4 : decode yB 4 = .ok (.arraylength, 1) := by decide +kernel
theorem d5 : decode yB 5 = .ok (.aconst_null, 1) := by decide +kernel
theorem d6 : decode yB 6 = .ok (.invokespecial 27, 3) := by decide +kernel
theorem d9 : decode yB 9 = .ok (.return_, 1) := by decide +kernel
def site : List Cond := [New4.tab] ++ initW "java/lang/String" 27 New4.yN
def tab : Cond := tabOf yN yB 2 none site
def P (a : Addr) (D : Cell) (fV fC : Field) (b : Addr) (A : Cell) (z : Int32) (args : Array Value) (s : State) : Prop := args = #[.ref a, .ref b] ∧ Blank "java/lang/String" a D s ∧ Found "java/lang/String" "value" "[B" fV s ∧ Found "java/lang/String" "coder" "B" fC s ∧ Ch b A s ∧ StaticIs s "java/lang/String" "COMPACT_STRINGS" "Z" (.int z) ∧ ¬ z = 0 ∧ 0 < A.slots.size ∧ A.slots.size ≤ 536870912 ∧ ∀ i, i < A.slots.size → ¬ 255 < cv A i
def E (a : Addr) (D : Cell) (fV fC : Field) (A : Cell) (r : Option Value) (s u : State) : Prop := Got a D fV fC A 0 A.slots.size r s u
/-- new String(chars), not empty, no char above 255: a Latin-1 String of their low bytes -/
theorem law (l : Launch) (a : Addr) (D : Cell) (fV fC : Field) (b : Addr) (A : Cell) (z : Int32) : Law l yN 2 1 3 52 yB 2 none site (P a D fV fC b A z) (E a D fV fC A) [⟨a, fC.slot⟩, ⟨a, fV.slot⟩] 1 A.slots.size := by
  refine Law.of_walk (plainFor_of_name (by decide +kernel)) (by decide +kernel) (by decide +kernel) (by decide) (fun _ _ h => by rw [h.1]; rfl) (fun _ U U' hal hh h => ⟨h.1, h.2.1.mv hal hh, h.2.2.1.al hal, h.2.2.2.1.al hal, h.2.2.2.2.1.mv hal hh, h.2.2.2.2.2.1.there hal hh, h.2.2.2.2.2.2⟩) (fun r U U' V V' h1 hal h2 h => Got.mv r U U' V V' h1 hal h2 h) ?_
  intro p e s m args below meth c s₁ X0 hexec hbytes hml hret hlk hnm hown hh0 W hP
  obtain ⟨rfl, hB, f1, f2, hA, s1, hz, l0, l2, hp⟩ := hP
  have c1 : Steps p.tables e below (s₁.setTop (entryFrame m #[.ref a, .ref b] 2)) (s₁.setTop (mkF m 0 #[.val (.ref a), .val (.ref b)] [])) := entry rfl
  have c2 : Steps p.tables e below (s₁.setTop (entryFrame m #[.ref a, .ref b] 2)) (s₁.setTop (mkF m 6 #[.val (.ref a), .val (.ref b)] [.null, .int (Int32.ofNat A.slots.size), .int 0, .ref b, .ref a])) := c1.trans (by
    refine XS.aloadN X0.here hexec rfl (hb hbytes d0) rfl rfl ?_
    refine XS.aloadN X0.here hexec rfl (hb hbytes d1) rfl rfl ?_
    refine iconstV X0.here hexec rfl 0 (hb hbytes d2) (by decide) ?_
    refine XS.aloadN X0.here hexec rfl (hb hbytes d3) rfl rfl ?_
    refine X0.alen hexec (hA.1.mv X0.warmed.alike hh0) rfl rfl (hb hbytes d4) ?_
    refine XS.aconstNull X0.here hexec rfl (hb hbytes d5) ?_
    exact Steps.refl _)
  obtain ⟨v3, T3, X3, E3, g3⟩ := X0.callN hexec (New4.law l a D fV fC b A z 0 A.slots.size) rfl hown (wks W (initW "java/lang/String" 27 New4.yN)) (W New4.tab (by simp only [site, List.mem_cons, List.mem_append, true_or, or_true])) (W := 0) (Nat.le_of_ble_eq_true rfl) (Nat.le_of_ble_eq_true rfl) (Nat.le_refl _) (by show 0 + A.slots.size ≤ A.slots.size; omega) (g := (mkF m 6 #[.val (.ref a), .val (.ref b)] [.null, .int (Int32.ofNat A.slots.size), .int (Int32.ofNat 0), .ref b, .ref a])) rfl (by rw [hml]; rfl) c2 (argsL := [.ref b, .int (Int32.ofNat 0), .int (Int32.ofNat A.slots.size), .null]) (rest := []) rfl rfl (by show 2 * 0 + 0 ≤ _; decide) (hb hbytes d6) (⟨rfl, hB.mv X0.warmed.alike hh0, f1.al X0.warmed.alike, f2.al X0.warmed.alike, hA.mv X0.warmed.alike hh0, s1.there X0.warmed.alike hh0, hz, l0, by omega, l2, fun i hi => by rw [Nat.zero_add]; exact hp i hi⟩)
  have e0 := Got.mv _ s₁ s _ _ hh0.symm (Vm.Alike.refl _) rfl E3
  obtain rfl := e0.1
  have c4 : Steps p.tables e below (s₁.setTop (entryFrame m #[.ref a, .ref b] 2)) (T3.setTop (mkF m 9 #[.val (.ref a), .val (.ref b)] [])) := g3
  exact ⟨T3, none, _, _, _, X3, by simp, rfl, by omega, (fun _ => rfl), e0, fun fs hl => c4.trans (X3.returnOut hexec hret (hb hbytes d9) hl)⟩
theorem pays {l : Launch} {R : Room} {p : Program} {e : Env} {below : List Frame} {s : State} {sargs : Array Value} {len W : Nat} (a : Addr) (D : Cell) (fV fC : Field) (b : Addr) (A : Cell) (z : Int32) (htab : tab.before sargs s = true) (hfr : 4 ≤ R.frames) (hlo : W + 65 ≤ R.locals) :
    Back l R p e below s sargs yN len W (fun A₁ a₁ => A₁.cells + 1 ≤ R.cells ∧ A₁.slots + A.slots.size ≤ R.slots ∧ P a D fV fC b A z a₁ A₁.U) (fun A₁ _ v₁ B₁ => E a D fV fC A v₁ A₁.U B₁.U ∧ B₁.locs = A₁.locs ++ [⟨a, fC.slot⟩, ⟨a, fV.slot⟩] ∧ B₁.cells = A₁.cells + 1 ∧ B₁.slots = A₁.slots + A.slots.size) :=
  (law l a D fV fC b A z).pays htab hfr (by omega)
end New1
end StrChars
namespace StrChars.Road
open Jvm Sem ClassFile Op Lib Jvm.Stand Jvm.Free Jvm.Free.XT
open Jvm.Lib.Cold (StaticIs)
abbrev ST : String := "java/lang/String"
/-- every table word that New1's law asks, flat -/
abbrev words : List Jvm.Cond := [.code New1.yN New1.yB 2 none, .initialized ST, .methodLink ST 27 New4.yN, .instanceMethod New4.yN,
  .code New4.yN New4.yB 6 none, .fieldLink ST 38 ST "COMPACT_STRINGS" "Z", .laysFinal ST ST "value" "[B", .fieldLink ST 9 ST "value" "[B", .laysFinal ST ST "coder" "B", .fieldLink ST 15 ST "coder" "B",
  .methodLink ST 1 Lib.objectInit, .instanceMethod Lib.objectInit, .code Lib.objectInit ⟨#[0xb1]⟩ 1 none, .methodLink ST 177 Cmp3.yN, .static Cmp3.yN, .methodLink ST 47 CodL.yN, .static CodL.yN,
  .code Cmp3.yN Cmp3.yB 6 (some (.array .byte)), .initialized U16, .arrayClass .byte, .methodLink U16 115 Cmp5.yN, .static Cmp5.yN, .code Cmp5.yN Cmp5.yB 7 (some .int), .code CodL.yN CodL.yB 2 (some .byte)]
theorem tab_of {a : Array Value} {s : State} (h : ∀ w ∈ words, w.before a s = true) : New1.tab.before a s = true := by
  have h5 : Cmp5.tab.before a s = true := unparts (wk h (.code Cmp5.yN Cmp5.yB 7 (some .int))) (wks h (.initialized Cmp5.yN.cls :: Cmp5.site))
  have hc : CodL.tab.before a s = true := unparts (wk h (.code CodL.yN CodL.yB 2 (some .byte))) (wks h (.initialized CodL.yN.cls :: CodL.site))
  have q5 : ∀ w ∈ Cmp5.tab :: words, w.before a s = true := fun w hw => (List.mem_cons.mp hw).elim (fun e => e ▸ h5) (h w)
  have h3 : Cmp3.tab.before a s = true := unparts (wk q5 (.code Cmp3.yN Cmp3.yB 6 (some (.array .byte)))) (wks q5 (.initialized Cmp3.yN.cls :: Cmp3.site))
  have q3 : ∀ w ∈ Cmp3.tab :: CodL.tab :: words, w.before a s = true := fun w hw => (List.mem_cons.mp hw).elim (fun e => e ▸ h3) fun hw => (List.mem_cons.mp hw).elim (fun e => e ▸ hc) (h w)
  have h4 : New4.tab.before a s = true := unparts (wk q3 (.code New4.yN New4.yB 6 none)) (wks q3 (.initialized New4.yN.cls :: New4.site))
  have q4 : ∀ w ∈ New4.tab :: words, w.before a s = true := fun w hw => (List.mem_cons.mp hw).elim (fun e => e ▸ h4) (h w)
  exact unparts (wk q4 (.code New1.yN New1.yB 2 none)) (wks q4 (.initialized New1.yN.cls :: New1.site))
/-- the words ride from the start Z to the walk's own state -/
theorem moved {Z s : State} {a0 args : Array Value} (hZ : Z.Warmed39 s.vm) (hw : ∀ d ∈ words, d.before a0 Z = true) : ∀ d ∈ words, d.before args s = true := fun d hd => by
  have q := hw d hd
  have t : ∀ d ∈ words, d = .arrayClass .byte ∨ (d.onTables && d.keepsFace) = true := by decide +kernel
  rcases t d hd with rfl | t
  · exact RoadKit.mvA hZ q
  · exact RoadKit.mv hZ q t
/-- WHAT COMES BACK, over the tables of the start Z: h the heap at the call, h' behind it -/
def Q (Z : State) (x : Addr) (A : Cell) (h : Heap) (v : Option Value) (h' : Heap) (L : List Loc) : Prop := v = none ∧ (∀ y ∈ L, y.base = x) ∧ RoadKit.Keep h h' [x] ∧ h'.size = h.size + 1 ∧ RoadKit.Exa Z h' x ST ∧ RoadKit.Fld Z h' x ST "value" "[B" (.ref h.size) ∧ RoadKit.Fld Z h' x ST "coder" "B" (.int 0) ∧
  (∃ V : Cell, RoadKit.Arr Z h' h.size V .byte ∧ V.vm = .none ∧ Z.vm.findClass "[B" = some V.cls ∧ V.slots.size = A.slots.size ∧ ∀ j, j < A.slots.size → V.slots[j]? = some (.int (lo8 (cv A j)))) ∧
  ∀ (O n d : String) (w : Value), RoadKit.Fld Z h x O n d w → RoadKit.slotOf Z O n d ≠ RoadKit.slotOf Z ST "value" "[B" → RoadKit.slotOf Z O n d ≠ RoadKit.slotOf Z ST "coder" "B" → RoadKit.Fld Z h' x O n d w
/-- **new String(chars) AT A CALL, IN THE ROAD'S FORM**: for specialBack behind newO: x the fresh String, b the char[] with the cell A -/
theorem back {p : Program} {l : Launch} {e : Env} {R : Room} {s : State} {args : Array Value} {below : List Frame} {len W : Nat} {Z : State} {a0 : Array Value} {h : Heap} (hZ : Z.Warmed39 s.vm) (hw : ∀ d ∈ words, d.before a0 Z = true) {kI : Nat} (wi : (Jvm.Cond.instantiable ST kI).before a0 Z = true)
    {x b : Addr} {A : Cell} {z : Int32} {v0 c0 : Value} (E : RoadKit.Exa Z h x ST) (V : RoadKit.Fld Z h x ST "value" "[B" v0) (C : RoadKit.Fld Z h x ST "coder" "B" c0) (K : RoadKit.Arr Z h b A .char) (hty : Typed .char A) (S : RoadKit.Sta Z h ST "COMPACT_STRINGS" "Z" (.int z)) (hz : ¬ z = 0)
    (l0 : 0 < A.slots.size) (l2 : A.slots.size ≤ 536870912) (hp : ∀ i, i < A.slots.size → ¬ 255 < cv A i) (hfr : 4 ≤ R.frames) (hlo : W + 65 ≤ R.locals) :
    Back l R p e below s args New1.yN len W (fun P a => a = #[.ref x, .ref b] ∧ P.U.heap = h ∧ P.cells + 1 ≤ R.cells ∧ P.slots + A.slots.size ≤ R.slots)
      (fun P _ v B => ∃ L, Q Z x A h v B.U.heap L ∧ B.locs = P.locs ++ L ∧ B.cells = P.cells + 1 ∧ B.slots = P.slots + A.slots.size) := by
  intro m meth c P g ig mk a X hg hsize hdg hW hn hp'
  obtain ⟨rfl, rfl, r1, r2⟩ := hp'
  have al : Z.vm.Alike P.U.vm := hZ.alike.trans X.warmed.alike
  obtain ⟨D, cfV, kV, iV, fV, hD, gV, stV, knV, obV, asV, slV⟩ := id V
  obtain ⟨D', cfC, kC, iC, fC, hD', gC, stC, -, -, asC, slC⟩ := id C
  cases hD.symm.trans hD'
  obtain ⟨D2, kD, e1, e2, e3, e4, e5⟩ := id E
  cases hD.symm.trans e1
  obtain ⟨c2, k2, i1, i2, i3, -⟩ := Cond.instantiable_spec wi
  cases e2.symm.trans i1
  cases e3.symm.trans i2
  obtain ⟨kU, u1, u2⟩ := al.2.2 _ _ e3
  have hB : Blank ST x D P.U := ⟨hD, ⟨knV, fun q hq => by rw [hq] at obV; cases obV⟩, by rw [al.findClass]; exact e2, kU, u1, by rw [u2]; exact i3, by rw [u2]; exact e5 i3⟩
  have F1 : Found ST "value" "[B" fV P.U := ⟨SBG.found_only al ⟨cfV, kV, iV, gV⟩, stV⟩
  have F2 : Found ST "coder" "B" fC P.U := ⟨SBG.found_only al ⟨cfC, kC, iC, gC⟩, stC⟩
  have hA : Ch b A P.U := ⟨⟨K.1, State.isArrayOf_alike al K.2.1, K.2.2, by omega⟩, hty⟩
  have hS : StaticIs P.U ST "COMPACT_STRINGS" "Z" (.int z) := by
    obtain ⟨cfS, iS, kS, fS, st, cS, t1, t2, t3, t4, t5, t6, t7⟩ := S
    exact StaticIs.there (s := { Z with heap := P.U.heap }) ⟨cfS, iS, kS, fS, st, cS, t1, t2, t3, t4, t5, (fun q => by rw [q] at t6; cases t6), t7⟩ al rfl
  obtain ⟨v, B, X', ⟨⟨hv, E', V', q1, q2, q3, q4, q5, q6, q7, q8, q9, q10, q11⟩, hl, hc, hs⟩, st⟩ := New1.pays x D fV fC b A z (tab_of (moved hZ hw)) hfr hlo m meth c P g ig mk _ X hg hsize hdg hW hn ⟨r1, r2, rfl, hB, F1, F2, hA, hS, hz, l0, l2, hp⟩
  have al' : Z.vm.Alike B.U.vm := hZ.alike.trans X'.warmed.alike
  have hsz : E'.slots.size = D.slots.size := by
    obtain ⟨-, -, -, kB, w1, w2, w3⟩ := q1
    obtain ⟨kB', y1, y2⟩ := al'.2.2 _ _ e3
    rw [q2.2.1] at w1
    cases w1.symm.trans y1
    rw [w3, e5 i3, y2]
  refine ⟨v, B, X', ⟨_, ⟨hv, ?_, ⟨by omega, fun y cy hy hn' => q10 y cy (by simpa using hn') hy, fun y cy hy => ?_⟩, q11, ⟨E', _, q1.1, by rw [q2.2.1]; exact e2, by rw [q2.2.1]; exact e3, by rw [q2.1]; exact obV, fun _ => by rw [hsz]; exact e5 i3⟩,
    ⟨E', cfV, kV, iV, fV, q1.1, gV, stV, by rw [q2.1]; exact knV, by rw [q2.1]; exact obV, by rw [q2.2.1]; exact asV, q3⟩, ⟨E', cfC, kC, iC, fC, q1.1, gC, stC, by rw [q2.1]; exact knV, by rw [q2.1]; exact obV, by rw [q2.2.1]; exact asC, q4⟩,
    ⟨V', ⟨q5.1, State.isArrayOf_alike al'.symm q5.2.1, q5.2.2.1⟩, q6, by rw [← al'.findClass]; exact q7, q8, fun j hj => by have := q9 j hj; rwa [Nat.zero_add] at this⟩, fun O n d w F n1 n2 => ?_⟩, hl, hc, hs⟩, st⟩
  · intro y hy
    simp only [List.mem_cons, List.not_mem_nil, or_false] at hy
    rcases hy with rfl | rfl <;> rfl
  · by_cases q : y = x
    · subst q
      cases hD.symm.trans hy
      exact ⟨E', q1.1, q2.2.1, q2.1, hsz⟩
    · exact ⟨cy, q10 y cy q hy, rfl, rfl, rfl⟩
  · obtain ⟨D3, cf, k, i, f, g1, g2, g3, g4, g5, g6, g7⟩ := F
    cases hD.symm.trans g1
    simp only [RoadKit.slotOf, g2, gV, gC, Option.map_some, Option.getD_some] at n1 n2
    exact ⟨E', cf, k, i, f, q1.1, g2, g3, by rw [q2.1]; exact g4, by rw [q2.1]; exact g5, by rw [q2.2.1]; exact g6, by rw [q2.2.2 f.slot (by simp [n1, n2])]; exact g7⟩
end StrChars.Road
namespace StrChars.Road
open Jvm Sem ClassFile Op Lib Jvm.Stand Jvm.Free Jvm.Free.XT
/-- WHAT COMES BACK, the byte[] as a list of values -/
def QA (Z : State) (x : Addr) (zn : Int32) (cs : List Int32) (h : Heap) (v : Option Value) (h' : Heap) (L : List Loc) : Prop := v = none ∧ (∀ y ∈ L, y.base = x) ∧ RoadKit.Keep h h' [x] ∧ h'.size = h.size + 1 ∧ RoadKit.Exa Z h' x ST ∧ RoadKit.Fld Z h' x ST "value" "[B" (.ref h.size) ∧ RoadKit.Fld Z h' x ST "coder" "B" (.int 0) ∧
  (∃ kb, Z.vm.findClass "[B" = some kb ∧ RoadKit.Arv Z h' h.size kb .byte zn (cs.map fun c => .int (lo8 c)) (.int 0)) ∧
  ∀ (O n d : String) (w : Value), RoadKit.Fld Z h x O n d w → RoadKit.slotOf Z O n d ≠ RoadKit.slotOf Z ST "value" "[B" → RoadKit.slotOf Z O n d ≠ RoadKit.slotOf Z ST "coder" "B" → RoadKit.Fld Z h' x O n d w
/-- **new String(chars) AT A CALL, THE ARRAYS AS LISTS**: the char[] at b holds cs, not empty, no char above 255 -/
theorem backArv {p : Program} {l : Launch} {e : Env} {R : Room} {s : State} {args : Array Value} {below : List Frame} {len W : Nat} {Z : State} {a0 : Array Value} {h : Heap} (hZ : Z.Warmed39 s.vm) (hw : ∀ d ∈ words, d.before a0 Z = true) {kI : Nat} (wi : (Jvm.Cond.instantiable ST kI).before a0 Z = true)
    {x b : Addr} {k : ClassId} {zn z : Int32} {cs : List Int32} {dv v0 c0 : Value} (E : RoadKit.Exa Z h x ST) (V : RoadKit.Fld Z h x ST "value" "[B" v0) (C : RoadKit.Fld Z h x ST "coder" "B" c0) (K : RoadKit.Arv Z h b k .char zn (cs.map Value.int) dv) (S : RoadKit.Sta Z h ST "COMPACT_STRINGS" "Z" (.int z)) (hz : ¬ z = 0)
    (hlen : zn.toNatClampNeg = cs.length) (h0 : 0 < cs.length) (hbig : cs.length ≤ 536870912) (hall : ∀ c ∈ cs, ¬ 255 < c) (hfr : 4 ≤ R.frames) (hlo : W + 65 ≤ R.locals) :
    Back l R p e below s args New1.yN len W (fun P a => a = #[.ref x, .ref b] ∧ P.U.heap = h ∧ P.cells + 1 ≤ R.cells ∧ P.slots + cs.length ≤ R.slots)
      (fun P _ v B => ∃ L, QA Z x zn cs h v B.U.heap L ∧ B.locs = P.locs ++ L ∧ B.cells = P.cells + 1 ∧ B.slots = P.slots + cs.length) := by
  obtain ⟨A, K1, K2, K3, K4, K5, K6⟩ := K
  have e : A.slots.size = cs.length := K3.trans hlen
  have hat : ∀ (i : Nat) (hi : i < cs.length), A.slots[i]? = some (.int cs[i]) := fun i hi => by rw [K5 i (by omega)]; simp [List.getD_eq_getElem?_getD, hi]
  have hcv : ∀ (i : Nat) (hi : i < cs.length), cv A i = cs[i] := fun i hi => by unfold cv; rw [hat i hi]
  have hty : Typed .char A := fun i v hv => by
    have hi : i < A.slots.size := (Array.getElem?_eq_some_iff.mp hv).1
    have q := K5 i hi
    rw [hv] at q
    rw [Option.some.inj q]
    exact K6 i hi
  refine Back.mono (back hZ hw wi E V C K1 hty S hz (by omega) (by omega) (fun i hi => by rw [hcv i (by omega)]; exact hall _ (List.getElem_mem _)) hfr hlo) (fun P a hp => ⟨hp.1, hp.2.1, hp.2.2.1, by rw [e]; exact hp.2.2.2⟩) (fun P a v B hp hq => ?_)
  obtain ⟨L, ⟨q1, q2, q3, q4, q5, q6, q7, ⟨V', v1, v2, v3, v4, v5⟩, q9⟩, hl, hc, hs⟩ := hq
  refine ⟨L, ⟨q1, q2, q3, q4, q5, q6, q7, ⟨V'.cls, v3, V', v1, rfl, by rw [v4, e, hlen], K4, fun i hi => ?_, fun i hi => ?_⟩, q9⟩, hl, hc, by rw [hs, e]⟩
  · have hi' : i < cs.length := by omega
    rw [v5 i (by omega), hcv i hi']; simp [List.getD_eq_getElem?_getD, hi']
  · have hi' : i < cs.length := by omega
    simp only [List.getD_eq_getElem?_getD, List.getElem?_map, List.getElem?_eq_getElem hi', Option.map_some, Option.getD_some]
    exact fits_lo8 _
end StrChars.Road
namespace StrChars.Road
open Jvm Sem ClassFile Op Lib Jvm.Stand Jvm.Free Jvm.Free.XT
/-- WHAT COMES BACK, in the writer's own shape -/
def QV (Z : State) (x : Addr) (N : Int32) (bs : List Int32) (h : Heap) (n0 : Nat) (v : Option Value) (h' : Heap) (L : List Loc) : Prop := v = none ∧ RoadKit.Fr n0 L ∧ RoadKit.Keep h h' [x] ∧ RoadKit.Exa Z h' x ST ∧ RoadKit.Fld Z h' x ST "coder" "B" (.int 0) ∧
  ∃ (t : Addr) (kb : ClassId), n0 ≤ t ∧ h.size ≤ t ∧ ¬ t = x ∧ RoadKit.Fld Z h' x ST "value" "[B" (.ref t) ∧ RoadKit.Arv Z h' t kb .byte N (bs.map Value.int) (.int 0)
/-- **new String(chars) AT A CALL, FOR THE WRITER**: a char[] of n known ints, each 0 to 255 -/
theorem backV {p : Program} {l : Launch} {e : Env} {R : Room} {s : State} {args : Array Value} {below : List Frame} {len W : Nat} {Z : State} {a0 : Array Value} {h : Heap} (hZ : Z.Warmed39 s.vm) (hw : ∀ d ∈ words, d.before a0 Z = true) {kI : Nat} (wi : (Jvm.Cond.instantiable ST kI).before a0 Z = true)
    {x b : Addr} {kC : ClassId} {cs bs : List Int32} {d v0 c0 : Value} {z N : Int32} {n n0 : Nat} (hx0 : n0 ≤ x) (hh0 : n0 ≤ h.size) (E : RoadKit.Exa Z h x ST) (V : RoadKit.Fld Z h x ST "value" "[B" v0) (C : RoadKit.Fld Z h x ST "coder" "B" c0) (K : RoadKit.Arv Z h b kC .char N (cs.map Value.int) d) (S : RoadKit.Sta Z h ST "COMPACT_STRINGS" "Z" (.int z)) (hz : ¬ z = 0)
    (hn : cs.length = n) (hN : N = Int32.ofNat n) (l0 : 0 < n) (l2 : n ≤ 4000) (hp : ∀ c ∈ cs, ¬ c < 0 ∧ ¬ (255 : Int32) < c) (hb : bs = cs.map (fun c => c.toInt8.toInt32)) (hfr : 4 ≤ R.frames) (hlo : W + 65 ≤ R.locals) :
    Back l R p e below s args (⟨"java/lang/String", "<init>", "([C)V"⟩ : MethodName) len W (fun P a => a = #[.ref x, .ref b] ∧ P.U.heap = h ∧ P.cells + 1 ≤ R.cells ∧ P.slots + n ≤ R.slots)
      (fun P _ v B => ∃ L, QV Z x N bs h n0 v B.U.heap L ∧ B.locs = P.locs ++ L ∧ B.cells = P.cells + 1 ∧ B.slots = P.slots + n) := by
  subst hn hN hb
  refine Back.mono (backArv hZ hw wi E V C K S hz (n32 (by omega)) l0 (by omega) (fun c hc => (hp c hc).2) hfr hlo) (fun P a hp => hp) (fun P a v B hp hq => ?_)
  obtain ⟨L, ⟨q1, q2, q3, q4, q5, q6, q7, ⟨kb, v1, v2⟩, q9⟩, hl, hc, hs⟩ := hq
  exact ⟨L, ⟨q1, fun y hy => by rw [q2 y hy]; exact hx0, q3, q5, q7, h.size, kb, hh0, Nat.le_refl _, Nat.ne_of_gt E.lt, q6, by rw [List.map_map]; exact v2⟩, hl, hc, hs⟩
end StrChars.Road
end Jvm.Pilot.@@N@@
namespace Jvm.RoadKit
open Sem ClassFile Op Lib Jvm.Stand Jvm.Free Jvm.LawKit
section OwnNew
variable {p : Program} {l : Launch} {e : Env} {R : Room} {s : State} {m : MethodId} {args : Array Value} {below : List Frame} {meth : Method} {c : Code} {T : State} {locs : List Loc} {cells slots : Nat} {h : Heap}
/-- from S the run comes to an end of which Q holds -/
def OwnGo (p : Program) (e : Env) (below : List Frame) (S : State) (Q : Outcome → State → Prop) : Prop :=
  ∃ s₂ o, Steps p.tables e below S s₂ ∧ s₂.status = .running ∧ Ended s₂ below o ∧ Q o s₂
theorem own_go {S : State} {Q : Outcome → State → Prop} (k : OwnGo p e below S Q) : ∃ s₂ o, Steps p.tables e below S s₂ ∧ s₂.status = .running ∧ Ended s₂ below o ∧ Q o s₂ := k
theorem own_back {S S' : State} {Q : Outcome → State → Prop} (h : ∀ t, Steps p.tables e below S' t → Steps p.tables e below S t) (k : OwnGo p e below S' Q) : OwnGo p e below S Q := by
  obtain ⟨s2, o, h1, h2⟩ := k
  exact ⟨s2, o, h _ h1, h2⟩
theorem own_seq {S S' : State} {Q : Outcome → State → Prop} (h : Steps p.tables e below S S') (k : OwnGo p e below S' Q) : OwnGo p e below S Q := own_back (fun _ ht => h.trans ht) k
abbrev OwnEnd (s : State) (Qf : Option Value → Heap → List Loc → Prop) (C S : Nat) : Outcome → State → Prop := fun o U' => ∃ v L, o = .returned v ∧ Qf v U'.heap L ∧ FrameEnd s o U' L C S
theorem own_end (X : Stand p l e R s m args below meth c T locs cells slots) (hlocks : meth.locks = false) {v : Option Value} (hv : meth.sig.returnType = none → v = none) {S : State} {Qf : Option Value → Heap → List Loc → Prop} {C Sl : Nat} (eT : T.heap = h) (hc : cells ≤ C) (hs : slots ≤ Sl) (hq : Qf v h locs)
    (step : ∀ fs : List Frame, (∀ (f : JFrame) (acts : List Action), f.method = m → f.locked = none → f.entered = [] → (doReturn e (T.setTop f) acts v).1 = T.setFrames fs) → Steps p.tables e below S (T.setFrames fs)) : OwnGo p e below S (OwnEnd s Qf C Sl) := by
  obtain ⟨fs, hr, hrun, hended, hW, hsame⟩ := X.leave (v := v) hv hlocks
  refine ⟨_, _, step fs hr, hrun, hended, v, locs, rfl, ?_, ⟨_, rfl⟩, hW, hsame.mono hc hs⟩
  show Qf v T.heap locs
  rw [eT]; exact hq
theorem own_hat {T : State} {h : Heap} {a : Addr} {c : Cell} (e : T.heap = h) (q : h[a]? = some c) : T.heap[a]? = some c := by rw [e]; exact q
theorem own_hle {T : State} {h : Heap} {k : Nat} (e : T.heap = h) (q : k ≤ h.size) : k ≤ T.heap.size := by rw [e]; exact q
theorem own_backN {Z : State} {a0 : Array Value} {y : MethodName} {bytes : ByteArray} {maxL : Nat} {ret : Option FieldType} {rm : Room} {len W : Nat} {as' : Array Value} {Q : Option Value → Heap → List Loc → Prop}
    (hM : MetFree l y (head1 [Cond.code y bytes maxL ret] rm) (fun a U => a = as' ∧ Z.Warmed39 U.vm ∧ U.heap = h) (fun _ _ _ _ _ => True) (fun _ U o U' => OwnEnd U Q rm.cells rm.slots o U'))
    (hZ : Z.Warmed39 s.vm) (wc : (Cond.code y bytes maxL ret).before a0 Z = true) (wz : (Cond.initialized y.cls).before a0 Z = true) (hf : rm.frames + 1 ≤ R.frames) (hl : W + (maxL + 11) + rm.locals ≤ R.locals) :
    Back l R p e below s args y len W (fun A a => a = as' ∧ A.U.heap = h ∧ A.cells + rm.cells ≤ R.cells ∧ A.slots + rm.slots ≤ R.slots)
      (fun A _ v B => ∃ L, Q v B.U.heap L ∧ B.locs = A.locs ++ L ∧ B.cells = A.cells + rm.cells ∧ B.slots = A.slots + rm.slots) := backOf (Q := Q) hM hZ wc wz hf hl
theorem own_retN (X : Stand p l e R s m args below meth c T locs cells slots) (hx : p.tables.exec = Jvm.exec) (hlocks : meth.locks = false) {pc : Nat} {Ls : Array Slot} {z : Int32} {t : FieldType} {rest : List Value} (hret : meth.sig.returnType = some t) (ht : t = .boolean ∨ t = .byte ∨ t = .char ∨ t = .short) (hn : nar t z = z)
    (hd : decode c.code pc = .ok (.ireturn, 1)) {Qf : Option Value → Heap → List Loc → Prop} {C Sl : Nat} (eT : T.heap = h) (hc : cells ≤ C) (hs : slots ≤ Sl) (hq : Qf (some (.int z)) h locs) : OwnGo p e below (T.setTop (mkF m pc Ls (.int z :: rest))) (OwnEnd s Qf C Sl) :=
  own_end X hlocks (fun h => by rw [hret] at h; cases h) eT hc hs hq fun fs hr => retN X hx hret ht hd (by rw [hn]; exact hr)
theorem own_retI (X : Stand p l e R s m args below meth c T locs cells slots) (hx : p.tables.exec = Jvm.exec) (hlocks : meth.locks = false) {pc : Nat} {Ls : Array Slot} {z : Int32} {rest : List Value} (hret : meth.sig.returnType = some .int)
    (hd : decode c.code pc = .ok (.ireturn, 1)) {Qf : Option Value → Heap → List Loc → Prop} {C Sl : Nat} (eT : T.heap = h) (hc : cells ≤ C) (hs : slots ≤ Sl) (hq : Qf (some (.int z)) h locs) : OwnGo p e below (T.setTop (mkF m pc Ls (.int z :: rest))) (OwnEnd s Qf C Sl) :=
  own_end X hlocks (fun h => by rw [hret] at h; cases h) eT hc hs hq fun fs hr => retOut X hx hret rfl (Or.inl ⟨rfl, Or.inl rfl, z, rfl⟩) hd hr
theorem own_retJ (X : Stand p l e R s m args below meth c T locs cells slots) (hx : p.tables.exec = Jvm.exec) (hlocks : meth.locks = false) {pc : Nat} {Ls : Array Slot} {z : Int64} {rest : List Value} (hret : meth.sig.returnType = some .long)
    (hd : decode c.code pc = .ok (.lreturn, 1)) {Qf : Option Value → Heap → List Loc → Prop} {C Sl : Nat} (eT : T.heap = h) (hc : cells ≤ C) (hs : slots ≤ Sl) (hq : Qf (some (.long z)) h locs) : OwnGo p e below (T.setTop (mkF m pc Ls (.long z :: rest))) (OwnEnd s Qf C Sl) :=
  own_end X hlocks (fun h => by rw [hret] at h; cases h) eT hc hs hq fun fs hr => retOut X hx hret rfl (Or.inr (Or.inl ⟨rfl, rfl, z, rfl⟩)) hd hr
theorem own_narA {t : FieldType} {w : Value} (h : w.isRef = true) : narrow t w = w := by
  rcases ref_cases h with rfl | ⟨a, rfl⟩ <;> cases t <;> rfl
theorem own_retA (X : Stand p l e R s m args below meth c T locs cells slots) (hx : p.tables.exec = Jvm.exec) (hlocks : meth.locks = false) {pc : Nat} {Ls : Array Slot} {w : Value} {t : FieldType} {rest : List Value} (hret : meth.sig.returnType = some t) (ht : t.isReference = true) (hw : w.isRef = true)
    (hd : decode c.code pc = .ok (.areturn, 1)) {Qf : Option Value → Heap → List Loc → Prop} {C Sl : Nat} (eT : T.heap = h) (hc : cells ≤ C) (hs : slots ≤ Sl) (hq : Qf (some w) h locs) : OwnGo p e below (T.setTop (mkF m pc Ls (w :: rest))) (OwnEnd s Qf C Sl) :=
  own_end X hlocks (fun h => by rw [hret] at h; cases h) eT hc hs hq fun fs hr => retOut X hx hret (own_narA hw) (Or.inr (Or.inr (Or.inr (Or.inr ⟨rfl, ht, hw⟩)))) hd hr
theorem own_retV (X : Stand p l e R s m args below meth c T locs cells slots) (hx : p.tables.exec = Jvm.exec) (hlocks : meth.locks = false) {pc : Nat} {Ls : Array Slot} (hret : meth.sig.returnType = none)
    (hd : decode c.code pc = .ok (.return_, 1)) {Qf : Option Value → Heap → List Loc → Prop} {C Sl : Nat} (eT : T.heap = h) (hc : cells ≤ C) (hs : slots ≤ Sl) (hq : Qf none h locs) : OwnGo p e below (T.setTop (mkF m pc Ls [])) (OwnEnd s Qf C Sl) :=
  own_end X hlocks (fun _ => rfl) eT hc hs hq fun fs hr => X.returnOut hx hret hd hr
end OwnNew
section OwnTerms
variable {args : Array Value} {first s : State} {o : Option Outcome} {idx : List Nat} {t u : Term}
theorem own_eqint {k : Int32} (h : (Cond.eq t (.int k)).value args first o s idx = some true) : t.eval args first o idx s = some (.int k) := by
  cases ha : t.eval args first o idx s with
  | none => simp [Cond.value, ha] at h
  | some x =>
    have hb : (Term.int k).eval args first o idx s = some (.int k) := Term.int_eval k
    cases x <;> simp [Cond.value, ha, hb, Value.isRef] at h ⊢
    exact h
theorem own_eqref {w : Addr} (hu : u.eval args first o idx s = some (.ref w)) (h : (Cond.eq t u).value args first o s idx = some true) : t.eval args first o idx s = some (.ref w) := by
  cases ha : t.eval args first o idx s with
  | none => simp [Cond.value, ha] at h
  | some x =>
    cases x <;> simp [Cond.value, ha, hu, Value.isRef] at h ⊢
    exact h
end OwnTerms
section OwnArr
variable {s : State} {args : Array Value} {t u : Term} {a : Addr} {c : Cell} {ty : FieldType}
theorem own_nat32 {n : Nat} (h : n < 2 ^ 31) : n.toInt32.toNatClampNeg = n := by
  have e : n.toInt32.toInt = n := Int32.toInt_ofNat_of_lt h
  have := nat_of (j := n.toInt32) (by rw [Int32.lt_iff_toInt_lt, e]; have z : (0 : Int32).toInt = 0 := rfl; omega)
  omega
theorem own_len {n : Int32} (A : Arr s s.heap a c ty) (et : t.eval args s none [] s = some (.ref a)) (h : (Cond.eq (.length t) (.int n)).value args s none s [] = some true) {k : Nat} (hk : n.toNatClampNeg = k := by rfl) : c.slots.size = k := by
  have e := own_eqint h
  have ha : s.arrayAt? a = some c := IntBox.arrayAt_of A.1 A.2.1 A.2.2
  by_cases hl : c.slots.size < 2 ^ 31
  · rw [len_f et ha hl] at e
    have e2 : c.slots.size.toInt32 = n := by injection e with e; injection e
    rw [← hk, ← e2]
    exact (own_nat32 hl).symm
  · simp [Term.eval, et, ha, hl] at e
theorem own_elem {j k : Int32} (A : Arr s s.heap a c ty) (et : t.eval args s none [] s = some (.ref a)) (h : (Cond.eq (.elem t (.int j)) (.int k)).value args s none s [] = some true) (hj : ¬ j < 0) : c.slots[j.toNatClampNeg]? = some (.int k) := by
  have e := own_eqint h
  have ha : s.arrayAt? a = some c := IntBox.arrayAt_of A.1 A.2.1 A.2.2
  rw [elem_f et (Term.int_eval j) ha hj] at e
  exact e
theorem own_elemR {j : Int32} {w : Addr} (A : Arr s s.heap a c ty) (et : t.eval args s none [] s = some (.ref a)) (hu : u.eval args s none [] s = some (.ref w)) (h : (Cond.eq (.elem t (.int j)) u).value args s none s [] = some true) (hj : ¬ j < 0) : c.slots[j.toNatClampNeg]? = some (.ref w) := by
  have e := own_eqref hu h
  have ha : s.arrayAt? a = some c := IntBox.arrayAt_of A.1 A.2.1 A.2.2
  rw [elem_f et (Term.int_eval j) ha hj] at e
  exact e
end OwnArr
section OwnMore
variable {Z : State} {h h' : Heap}
theorem own_arr_ne {a b : Addr} {c d : Cell} {t u : FieldType} (A : Arr Z h a c t) (B : Arr Z h b d u) (q : t ≠ u) : a ≠ b := fun e => by
  subst e
  cases A.1.symm.trans B.1
  obtain ⟨-, k1, h1, cp1, h2⟩ := A.2.1
  obtain ⟨-, k2, h3, cp2, h4⟩ := B.2.1
  cases h1.symm.trans h3
  rw [h2] at h4
  injection h4 with _ h5
  exact q h5
theorem own_arv_ne {a b : Addr} {k k' : ClassId} {t u : FieldType} {z z' : Int32} {vs vs' : List Value} {d d' : Value} (A : Arv Z h a k t z vs d) (B : Arv Z h b k' u z' vs' d') (q : t ≠ u) : a ≠ b := by
  obtain ⟨c, A, -⟩ := A
  obtain ⟨c', B, -⟩ := B
  exact own_arr_ne A B q
theorem own_ext (K : Keep h h' []) : Ext h h' := ⟨K.1, fun x c q => K.2.1 x c q nin0⟩
theorem own_fitA {t : FieldType} {w : Value} (hw : w.isRef = true) (ht : t.isReference = true := by rfl) : fits t w = true := by
  rcases ref_cases hw with rfl | ⟨a, rfl⟩ <;> cases t <;> first | rfl | cases ht
end OwnMore
section OwnRem
variable {p : Program} {l : Launch} {e : Env} {R : Room} {s : State} {m : MethodId} {args : Array Value} {below : List Frame} {meth : Method} {c : Code} {T : State} {locs : List Loc} {cells slots : Nat}
theorem own_lrem {g : JFrame} {target : State} (X : Stand p l e R s m args below meth c T locs cells slots) (hx : p.tables.exec = Jvm.exec) (hg : g.method = m) {x y : Int64} {rest : List Value} (hd : decode c.code g.pc = .ok (.lrem, 1)) (hs : g.stack = .long y :: .long x :: rest) (hy : y ≠ 0)
    (hr : Steps p.tables e below (T.setTop { g with pc := g.pc + 1, stack := .long (x % y) :: rest }) target) : Steps p.tables e below (T.setTop g) target :=
  XS.lrem X.here hx hg hd hs hy (by rw [lrem_mod]; exact hr)
end OwnRem
end Jvm.RoadKit
namespace Jvm.RoadKit
open Sem ClassFile Op Lib Bundle Jvm.Stand Jvm.Free Jvm.LawKit Jvm.Free.SB Jvm.Free.SBG
section OwnWide
variable {p : Program} {l : Launch} {e : Env} {R : Room} {s : State} {m : MethodId} {args : Array Value} {below : List Frame} {meth : Method} {c : Code} {T : State} {locs : List Loc} {cells slots : Nat} {h h0 : Heap} {Z : State} {a0 : Array Value} {EL : List (String × Nat)} {vm0 : Vm} {k0 : Nat}
abbrev OwnEndW (Z : State) (EL : List (String × Nat)) (s : State) (Qf : Option Value → Heap → List Loc → Prop) (C S : Nat) : Outcome → State → Prop := fun o U' => ∃ v L, o = .returned v ∧ Qf v U'.heap L ∧ CHr Z EL s.vm s.heap U'.vm U'.heap ∧ ReturnedEndW s o U' L C S
theorem own_endW (X : Stand p l e R (s.setVm vm0) m args below meth c T locs cells slots) (hlocks : meth.locks = false) {v : Option Value} (hv : meth.sig.returnType = none → v = none) {S : State} {Qf : Option Value → Heap → List Loc → Prop} {C Sl : Nat}
    (hS : s.Since vm0 k0) (hk : k0 ≤ h.size) (hZ : Z.Warmed39 (s.setVm vm0).vm) (hEL : EW Z a0 EL) (CR : CHr Z EL s.vm s.heap vm0 h) (eT : T.heap = h) (hc : cells ≤ C) (hs : slots ≤ Sl) (hq : Qf v h locs)
    (step : ∀ fs : List Frame, (∀ (f : JFrame) (acts : List Action), f.method = m → f.locked = none → f.entered = [] → (doReturn e (T.setTop f) acts v).1 = T.setFrames fs) → Steps p.tables e below S (T.setFrames fs)) : OwnGo p e below S (OwnEndW Z EL s Qf C Sl) := by
  obtain ⟨fs, hr, hrun, hended, hw1, hw2, hw3, hw4⟩ := X.leaveW (v := v) hS (by rw [eT]; exact hk) hv hlocks
  refine ⟨_, _, step fs hr, hrun, hended, v, locs, rfl, ?_, ?_, hw1, hw2, hw3, hw4.mono hc hs⟩
  · show Qf v T.heap locs
    rw [eT]; exact hq
  · show CHr Z EL s.vm s.heap T.vm T.heap
    rw [eT]; exact CR.trans (CHv.at X hZ hEL CR.1)
theorem own_retNW (X : Stand p l e R (s.setVm vm0) m args below meth c T locs cells slots) (hx : p.tables.exec = Jvm.exec) (hlocks : meth.locks = false) {pc : Nat} {Ls : Array Slot} {z : Int32} {t : FieldType} {rest : List Value} (hret : meth.sig.returnType = some t) (ht : t = .boolean ∨ t = .byte ∨ t = .char ∨ t = .short) (hn : nar t z = z)
    (hS : s.Since vm0 k0) (hk : k0 ≤ h.size) (hZ : Z.Warmed39 (s.setVm vm0).vm) (hEL : EW Z a0 EL) (CR : CHr Z EL s.vm s.heap vm0 h)
    (hd : decode c.code pc = .ok (.ireturn, 1)) {Qf : Option Value → Heap → List Loc → Prop} {C Sl : Nat} (eT : T.heap = h) (hc : cells ≤ C) (hs : slots ≤ Sl) (hq : Qf (some (.int z)) h locs) : OwnGo p e below (T.setTop (mkF m pc Ls (.int z :: rest))) (OwnEndW Z EL s Qf C Sl) :=
  own_endW X hlocks (fun h => by rw [hret] at h; cases h) hS hk hZ hEL CR eT hc hs hq fun fs hr => retN X hx hret ht hd (by rw [hn]; exact hr)
theorem own_retIW (X : Stand p l e R (s.setVm vm0) m args below meth c T locs cells slots) (hx : p.tables.exec = Jvm.exec) (hlocks : meth.locks = false) {pc : Nat} {Ls : Array Slot} {z : Int32} {rest : List Value} (hret : meth.sig.returnType = some .int)
    (hS : s.Since vm0 k0) (hk : k0 ≤ h.size) (hZ : Z.Warmed39 (s.setVm vm0).vm) (hEL : EW Z a0 EL) (CR : CHr Z EL s.vm s.heap vm0 h)
    (hd : decode c.code pc = .ok (.ireturn, 1)) {Qf : Option Value → Heap → List Loc → Prop} {C Sl : Nat} (eT : T.heap = h) (hc : cells ≤ C) (hs : slots ≤ Sl) (hq : Qf (some (.int z)) h locs) : OwnGo p e below (T.setTop (mkF m pc Ls (.int z :: rest))) (OwnEndW Z EL s Qf C Sl) :=
  own_endW X hlocks (fun h => by rw [hret] at h; cases h) hS hk hZ hEL CR eT hc hs hq fun fs hr => retOut X hx hret rfl (Or.inl ⟨rfl, Or.inl rfl, z, rfl⟩) hd hr
theorem own_retJW (X : Stand p l e R (s.setVm vm0) m args below meth c T locs cells slots) (hx : p.tables.exec = Jvm.exec) (hlocks : meth.locks = false) {pc : Nat} {Ls : Array Slot} {z : Int64} {rest : List Value} (hret : meth.sig.returnType = some .long)
    (hS : s.Since vm0 k0) (hk : k0 ≤ h.size) (hZ : Z.Warmed39 (s.setVm vm0).vm) (hEL : EW Z a0 EL) (CR : CHr Z EL s.vm s.heap vm0 h)
    (hd : decode c.code pc = .ok (.lreturn, 1)) {Qf : Option Value → Heap → List Loc → Prop} {C Sl : Nat} (eT : T.heap = h) (hc : cells ≤ C) (hs : slots ≤ Sl) (hq : Qf (some (.long z)) h locs) : OwnGo p e below (T.setTop (mkF m pc Ls (.long z :: rest))) (OwnEndW Z EL s Qf C Sl) :=
  own_endW X hlocks (fun h => by rw [hret] at h; cases h) hS hk hZ hEL CR eT hc hs hq fun fs hr => retOut X hx hret rfl (Or.inr (Or.inl ⟨rfl, rfl, z, rfl⟩)) hd hr
theorem own_retAW (X : Stand p l e R (s.setVm vm0) m args below meth c T locs cells slots) (hx : p.tables.exec = Jvm.exec) (hlocks : meth.locks = false) {pc : Nat} {Ls : Array Slot} {w : Value} {t : FieldType} {rest : List Value} (hret : meth.sig.returnType = some t) (ht : t.isReference = true) (hw : w.isRef = true)
    (hS : s.Since vm0 k0) (hk : k0 ≤ h.size) (hZ : Z.Warmed39 (s.setVm vm0).vm) (hEL : EW Z a0 EL) (CR : CHr Z EL s.vm s.heap vm0 h)
    (hd : decode c.code pc = .ok (.areturn, 1)) {Qf : Option Value → Heap → List Loc → Prop} {C Sl : Nat} (eT : T.heap = h) (hc : cells ≤ C) (hs : slots ≤ Sl) (hq : Qf (some w) h locs) : OwnGo p e below (T.setTop (mkF m pc Ls (w :: rest))) (OwnEndW Z EL s Qf C Sl) :=
  own_endW X hlocks (fun h => by rw [hret] at h; cases h) hS hk hZ hEL CR eT hc hs hq fun fs hr => retOut X hx hret (own_narA hw) (Or.inr (Or.inr (Or.inr (Or.inr ⟨rfl, ht, hw⟩)))) hd hr
theorem own_retVW (X : Stand p l e R (s.setVm vm0) m args below meth c T locs cells slots) (hx : p.tables.exec = Jvm.exec) (hlocks : meth.locks = false) {pc : Nat} {Ls : Array Slot} (hret : meth.sig.returnType = none)
    (hS : s.Since vm0 k0) (hk : k0 ≤ h.size) (hZ : Z.Warmed39 (s.setVm vm0).vm) (hEL : EW Z a0 EL) (CR : CHr Z EL s.vm s.heap vm0 h)
    (hd : decode c.code pc = .ok (.return_, 1)) {Qf : Option Value → Heap → List Loc → Prop} {C Sl : Nat} (eT : T.heap = h) (hc : cells ≤ C) (hs : slots ≤ Sl) (hq : Qf none h locs) : OwnGo p e below (T.setTop (mkF m pc Ls [])) (OwnEndW Z EL s Qf C Sl) :=
  own_endW X hlocks (fun _ => rfl) hS hk hZ hEL CR eT hc hs hq fun fs hr => X.returnOut hx hret hd hr
/-- a callee that may intern and keeps the invariant; the cells SL are no booked Strings' -/
theorem own_backH {y : MethodName} {bytes : ByteArray} {maxL : Nat} {ret : Option FieldType} {rm : Room} {len W : Nat} {as' : Array Value} {Q : Option Value → Heap → List Loc → Prop} {SL : List Addr}
    (hM : MetFree l y (head1 [Cond.code y bytes maxL ret] rm) (fun a U => a = as' ∧ Z.Warmed39 U.vm ∧ U.heap = h ∧ CHv Z EL U.vm h ∧ ∀ x ∈ SL, Safe Z EL U.vm h x) (fun _ _ _ _ _ => True) (fun _ U o U' => OwnEndW Z EL U Q rm.cells rm.slots o U'))
    (hZ : Z.Warmed39 (s.setVm vm0).vm) (wc : (Cond.code y bytes maxL ret).before a0 Z = true) (wz : (Cond.initialized y.cls).before a0 Z = true) (hf : rm.frames + 1 ≤ R.frames) (hl : W + (maxL + 11) + rm.locals ≤ R.locals) (hEL : EW Z a0 EL) (H : CHv Z EL vm0 h) (hsf : ∀ x ∈ SL, Safe Z EL vm0 h x) (hlt : ∀ x ∈ SL, x < h.size) :
    BackS l R p e below (s.setVm vm0) args y len W (fun A a => a = as' ∧ A.U.heap = h ∧ A.cells + rm.cells ≤ R.cells ∧ A.slots + rm.slots ≤ R.slots)
      (fun A _ v B => ∃ L, Q v B.U.heap L ∧ B.locs = A.locs ++ L ∧ B.cells = A.cells + rm.cells ∧ B.slots = A.slots + rm.slots ∧ CHr Z EL vm0 h B.U.vm B.U.heap) :=
  have hZ' : Z.Warmed39 vm0 := hZ
  BackS.of_freeW (bytes := bytes) (maxL := maxL) (ret := ret) (E := fun _ first o t L k n => k = rm.cells ∧ n = rm.slots ∧ (∃ v, o = .returned v ∧ Q v t.heap L) ∧ CHr Z EL first.vm first.heap t.vm t.heap) hM hf hl
    (fun m meth c A a Y hp => have hU : Z.Warmed39 A.U.vm := wtrans (s := s.setVm vm0) hZ' Y.warmed
      ⟨by show (Cond.and _ .tt).before a A.U = true; rw [Cond.before_and, mv hU wc]; rfl, mv hU wc, mv hU wz, hp.2.2.1, hp.2.2.2⟩)
    (fun m meth c A a g mk Y hp => ⟨hp.1, wtrans (s := s.setVm vm0) hZ' Y.warmed, hp.2.1, (CHv.at Y hZ' hEL H).1, fun x hx => (CHv.at Y hZ' hEL H).safe (hlt x hx) (hsf x hx)⟩) (fun _ _ _ _ _ _ _ _ _ => trivial)
    (fun _ _ _ _ ⟨v, L, h1, h2, h3, h4⟩ => ⟨L, _, _, h4, rfl, rfl, ⟨v, h1, h2⟩, h3⟩)
    (fun m meth c A a g mk v t L k n Y hp _ _ ⟨e1, e2, ⟨v', e3, e4⟩, e5⟩ => by
      cases e3; subst e1 e2
      refine ⟨L, e4, rfl, rfl, rfl, (CHv.at Y hZ' hEL H).trans ?_⟩
      rw [← hp.2.1]; exact e5)
/-- where a wide walk stands: all that its steps ask, bundled -/
def OwnSt (p : Program) (l : Launch) (e : Env) (R : Room) (s : State) (m : MethodId) (args : Array Value) (below : List Frame) (meth : Method) (c : Code) (Z : State) (EL : List (String × Nat)) (own : String) (n0 : Nat) (h0 : Heap) (ws : List Addr) (T : State) (h : Heap) (cells slots : Nat) : Prop :=
  ∃ (vm0 : Vm) (k0 : Nat) (locs : List Loc), Stand p l e R (s.setVm vm0) m args below meth c T locs cells slots ∧ T.heap = h ∧ s.Since vm0 k0 ∧ k0 ≤ h.size ∧ Z.Warmed39 (s.setVm vm0).vm ∧ (s.setVm vm0).vm.findClass own = some m.cls ∧ CHr Z EL s.vm h0 vm0 h ∧ Old Z n0 h ∧ Keep h0 h ws ∧ n0 ≤ h.size ∧ Fr n0 locs
end OwnWide
end Jvm.RoadKit
namespace Jvm.Pilot.@@N@@
open Jvm Jvm.ClassFile Sem Op Lib Jvm.Free Jvm.Stand Jvm.LawKit Jvm.RoadKit Bundle Jvm.Pilot.@@N@@.Jvm.D
abbrev own_EL : List (String × Nat) := consts_1
theorem own_EW {Z : State} {a0 : Array Value} (hw : ∀ d ∈ tables_1, d.before a0 Z = true) : EW Z a0 own_EL := (EW.cons (hw _ (List.mem_of_getElem? (i := 44) rfl)) (by decide +kernel) EW.nil)
theorem own_wS {Z : State} {a0 : Array Value} (hw : ∀ d ∈ tables_1, d.before a0 Z = true) : ∀ a ∈ Bundle.stringAtoms, a.before a0 Z = true := fun d hd => hw d ((by decide +kernel : ∀ d ∈ Bundle.stringAtoms, d ∈ tables_1) d hd)

/-- a is an ordinary Latin-1 String whose bytes are bs -/
def OwnStr (Z : State) (h : Heap) (a : Addr) (bs : List Int32) : Prop := ∃ (t : Addr) (k : ClassId), Exa Z h a "java/lang/String" ∧ Fld Z h a "java/lang/String" "coder" "B" (.int 0) ∧ Fld Z h a "java/lang/String" "value" "[B" (.ref t) ∧ Arv Z h t k .byte (Int32.ofNat bs.length) (bs.map Value.int) (.int 0) ∧ bs.length ≤ 4000
theorem OwnStr.ext {Z : State} {h h' : Heap} {a : Addr} {bs : List Int32} (E : Ext h h') (F : OwnStr Z h a bs) : OwnStr Z h' a bs := by
  obtain ⟨t, k, h1, h2, h3, h4, h5⟩ := F
  exact ⟨t, k, h1.ext E, h2.ext E, h3.ext E, h4.ext E, h5⟩
theorem OwnStr.exa {Z : State} {h : Heap} {a : Addr} {bs : List Int32} (F : OwnStr Z h a bs) : Exa Z h a "java/lang/String" := by
  obtain ⟨t, k, h1, h2, h3, h4, h5⟩ := F
  exact h1
theorem own_exaarv {Z : State} {h : Heap} {t w : Addr} {C : String} {k : ClassId} {ty : FieldType} {z : Int32} {vs : List Value} {d : Value} {a0 : Array Value} {n : Nat} (A : Arv Z h t k ty z vs d) (E : Exa Z h w C) (wi : (Cond.instantiable C n).before a0 Z = true) : t ≠ w := Ne.symm (Exa.neArv E A wi)
theorem OwnStr.wrA {Z : State} {h h' : Heap} {a w : Addr} {bs : List Int32} {sl : Nat} {v : Value} {k : ClassId} {ty : FieldType} {z : Int32} {vs : List Value} {d : Value} {a0 : Array Value} {n : Nat} (W : Wr h h' w sl v) (A : Arv Z h w k ty z vs d) (q : ty ≠ .byte) (wi : (Cond.instantiable "java/lang/String" n).before a0 Z = true) (F : OwnStr Z h a bs) : OwnStr Z h' a bs := by
  obtain ⟨t, k', h1, h2, h3, h4, h5⟩ := F
  have n1 : a ≠ w := Exa.neArv h1 A wi
  have n2 : t ≠ w := Ne.symm (own_arv_ne A h4 q)
  exact ⟨t, k', h1.wr W, h2.other W (Or.inl n1), h3.other W (Or.inl n1), h4.other W n2, h5⟩
theorem OwnStr.wrE {Z : State} {h h' : Heap} {a w : Addr} {bs : List Int32} {sl : Nat} {v : Value} {C : String} {a0 : Array Value} {n : Nat} (W : Wr h h' w sl v) (E : Exa Z h w C) (q : C ≠ "java/lang/String") (wi : (Cond.instantiable C n).before a0 Z = true) (F : OwnStr Z h a bs) : OwnStr Z h' a bs := by
  obtain ⟨t, k', h1, h2, h3, h4, h5⟩ := F
  have n1 : a ≠ w := Exa.ne h1 E (Ne.symm q)
  have n2 : t ≠ w := own_exaarv h4 E wi
  exact ⟨t, k', h1.wr W, h2.other W (Or.inl n1), h3.other W (Or.inl n1), h4.other W n2, h5⟩
theorem OwnStr.keepE {Z : State} {h h' : Heap} {a w : Addr} {bs : List Int32} {C : String} {a0 : Array Value} {n : Nat} (K : Keep h h' [w]) (E : Exa Z h w C) (q : C ≠ "java/lang/String") (wi : (Cond.instantiable C n).before a0 Z = true) (F : OwnStr Z h a bs) : OwnStr Z h' a bs := by
  obtain ⟨t, k', h1, h2, h3, h4, h5⟩ := F
  have n1 : a ≠ w := Exa.ne h1 E (Ne.symm q)
  have n2 : t ≠ w := own_exaarv h4 E wi
  exact ⟨t, k', h1.keep K, h2.keep K (ninS n1 nin0), h3.keep K (ninS n1 nin0), h4.keep K (ninS n2 nin0), h5⟩
theorem own_i32 {n : Nat} (h : n < 2 ^ 31) : (Int32.ofNat n).toInt = n := Int32.toInt_ofNat_of_lt h
theorem own_nn {n : Nat} (h : n < 2 ^ 31) : ¬ Int32.ofNat n < 0 := by
  rw [Int32.lt_iff_toInt_lt, own_i32 h]
  have z : (0 : Int32).toInt = 0 := rfl
  omega
theorem own_clamp {n : Nat} (h : n < 2 ^ 31) : (Int32.ofNat n).toNatClampNeg = n := by
  have := nat_of (own_nn h)
  rw [own_i32 h] at this
  omega
theorem own_lti {i n : Nat} (h : n < 2 ^ 31) (hi : i < n) : Int32.ofNat i < Int32.ofNat n := by
  rw [Int32.lt_iff_toInt_lt, own_i32 h, own_i32 (Nat.lt_trans hi h)]
  omega
theorem own_eqi {i n : Nat} (hi : i < 2 ^ 31) (h : n < 2 ^ 31) (e : Int32.ofNat i = Int32.ofNat n) : i = n := by
  have := congrArg Int32.toInt e
  rw [own_i32 h, own_i32 hi] at this
  omega
theorem own_suci (i : Nat) : Int32.ofNat i + (1 : Int32) = Int32.ofNat (i + 1) := (Int32.ofNat_add i 1).symm
theorem own_mapget (bs : List Int32) (i : Nat) (hi : i < 2 ^ 31) : (bs.map Value.int).getD (Int32.ofNat i).toNatClampNeg (.int 0) = .int (bs.getD i 0) := by
  rw [own_clamp hi]
  simp only [List.getD_eq_getElem?_getD, List.getElem?_map]
  cases bs[i]? <;> rfl
theorem own_exteq {bs ds : List Int32} (hl : bs.length = ds.length) (h : ∀ j, j < bs.length → bs.getD j 0 = ds.getD j 0) : bs = ds := by
  apply List.ext_getElem hl
  intro i h1 h2
  have := h i h1
  simpa [List.getD_eq_getElem?_getD, h1, h2] using this

abbrev own_b (y : Int32) : Int32 := (nar .char y).toInt8.toInt32
theorem own_c255 (x : Int32) : ¬ nar .char ((x &&& (255 : Int32)).toUInt32.toUInt16.toUInt32.toInt32) < 0 ∧ ¬ (255 : Int32) < nar .char ((x &&& (255 : Int32)).toUInt32.toUInt16.toUInt32.toInt32) := by
  have e1 : nar .char ((x &&& (255 : Int32)).toUInt32.toUInt16.toUInt32.toInt32) = x &&& 255 := by
    show ((x &&& (255 : Int32)).toUInt32.toUInt16.toUInt32.toInt32).toUInt32.toUInt16.toUInt32.toInt32 = _
    rw [i2c_mask, i2c_mask]
  rw [e1]
  have h := c_and x 255 (by decide)
  have z : (0 : Int32).toInt = 0 := rfl
  have z2 : (255 : Int32).toInt = 255 := rfl
  constructor <;> rw [Int32.lt_iff_toInt_lt] <;> omega
theorem own_all0 {P : Int32 → Prop} : ∀ x ∈ ([] : List Int32), P x := fun _ q => nomatch q
theorem own_allS {P : Int32 → Prop} {y : Int32} {L : List Int32} (q : P y) (r : ∀ x ∈ L, P x) : ∀ x ∈ y :: L, P x := fun x z => (List.mem_cons.mp z).elim (fun u => u ▸ q) (r x)
theorem own_wV {Z : State} {a0 : Array Value} (hw : ∀ d ∈ tables_1, d.before a0 Z = true) : ∀ d ∈ StrChars.Road.words, d.before a0 Z = true := fun d hd => hw d ((by decide +kernel : ∀ d ∈ StrChars.Road.words, d ∈ tables_1) d hd)
theorem leq_d0 : decode jdk_43_method_13_code 0 = .ok (.aload_n 0, 1) := by decide +kernel
theorem leq_d1 : decode jdk_43_method_13_code 1 = .ok (.arraylength, 1) := by decide +kernel
theorem leq_d2 : decode jdk_43_method_13_code 2 = .ok (.aload_n 1, 1) := by decide +kernel
theorem leq_d3 : decode jdk_43_method_13_code 3 = .ok (.arraylength, 1) := by decide +kernel
theorem leq_d4 : decode jdk_43_method_13_code 4 = .ok (.if_icmp .ne 30, 3) := by decide +kernel
theorem leq_d7 : decode jdk_43_method_13_code 7 = .ok (.iconst 0, 1) := by decide +kernel
theorem leq_d8 : decode jdk_43_method_13_code 8 = .ok (.istore_n 2, 1) := by decide +kernel
theorem leq_d9 : decode jdk_43_method_13_code 9 = .ok (.iload_n 2, 1) := by decide +kernel
theorem leq_d10 : decode jdk_43_method_13_code 10 = .ok (.aload_n 0, 1) := by decide +kernel
theorem leq_d11 : decode jdk_43_method_13_code 11 = .ok (.arraylength, 1) := by decide +kernel
theorem leq_d12 : decode jdk_43_method_13_code 12 = .ok (.if_icmp .ge 20, 3) := by decide +kernel
theorem leq_d15 : decode jdk_43_method_13_code 15 = .ok (.aload_n 0, 1) := by decide +kernel
theorem leq_d16 : decode jdk_43_method_13_code 16 = .ok (.iload_n 2, 1) := by decide +kernel
theorem leq_d17 : decode jdk_43_method_13_code 17 = .ok (.baload, 1) := by decide +kernel
theorem leq_d18 : decode jdk_43_method_13_code 18 = .ok (.aload_n 1, 1) := by decide +kernel
theorem leq_d19 : decode jdk_43_method_13_code 19 = .ok (.iload_n 2, 1) := by decide +kernel
theorem leq_d20 : decode jdk_43_method_13_code 20 = .ok (.baload, 1) := by decide +kernel
theorem leq_d21 : decode jdk_43_method_13_code 21 = .ok (.if_icmp .eq 5, 3) := by decide +kernel
theorem leq_d24 : decode jdk_43_method_13_code 24 = .ok (.iconst 0, 1) := by decide +kernel
theorem leq_d25 : decode jdk_43_method_13_code 25 = .ok (.ireturn, 1) := by decide +kernel
theorem leq_d26 : decode jdk_43_method_13_code 26 = .ok (.iinc 2 1, 3) := by decide +kernel
theorem leq_d29 : decode jdk_43_method_13_code 29 = .ok (.goto (-20), 3) := by decide +kernel
theorem leq_d32 : decode jdk_43_method_13_code 32 = .ok (.iconst 1, 1) := by decide +kernel
theorem leq_d33 : decode jdk_43_method_13_code 33 = .ok (.ireturn, 1) := by decide +kernel
theorem leq_d34 : decode jdk_43_method_13_code 34 = .ok (.iconst 0, 1) := by decide +kernel
theorem leq_d35 : decode jdk_43_method_13_code 35 = .ok (.ireturn, 1) := by decide +kernel
theorem leq_pn : plainName "java/lang/StringLatin1" = true := by first | (simp [plainName, overriddenIn]; done) | decide +kernel
theorem leq_ef (m : MethodId) (x0 : Addr) (x1 : Addr) : entryFrame m #[(.ref x0), (.ref x1)] 3 = mkF m 0 #[.val (.ref x0), .val (.ref x1), .unset] [] := by first | (simp [entryFrame, mkF, argsToLocals, Value.category]; done) | rfl
set_option maxRecDepth 65536 in
set_option maxHeartbeats 40000000 in
theorem rm_leq (l : Launch) (Z : State) (a0 : Array Value) (hw : ∀ d ∈ tables_1, d.before a0 Z = true) (ws : List Jvm.Cond) (t1 : Addr) (t2 : Addr) (k1 : ClassId) (k2 : ClassId) (bs : List Int32) (ds : List Int32) (h0 : Heap) (n0 : Nat) (Z0 : n0 ≤ h0.size) (V1 : Arv Z h0 t1 k1 .byte (Int32.ofNat bs.length) (bs.map Value.int) (.int 0)) (V2 : Arv Z h0 t2 k2 .byte (Int32.ofNat ds.length) (ds.map Value.int) (.int 0)) (m1 : bs.length ≤ 4000) (m2 : ds.length ≤ 4000) :
    MetFree l (⟨"java/lang/StringLatin1", "equals", "([B[B)Z"⟩ : MethodName) (head1 (Jvm.Cond.code (⟨"java/lang/StringLatin1", "equals", "([B[B)Z"⟩ : MethodName) jdk_43_method_13_code 3 (some .boolean) :: ws) ({ frames := 0, cells := 0, slots := 0, locals := 0 } : Room)) (fun a U => a = #[(.ref t1), (.ref t2)] ∧ Z.Warmed39 U.vm ∧ U.heap = h0) (fun _ _ _ _ _ => True) (fun _ U o U' => OwnEnd U (fun v h L => v = some (.int (if bs = ds then 1 else 0)) ∧ Fr n0 L ∧ h = h0) ({ frames := 0, cells := 0, slots := 0, locals := 0 } : Room).cells ({ frames := 0, cells := 0, slots := 0, locals := 0 } : Room).slots o U') := by
  refine MetFree.of_bodySF (plainFor_of_name leq_pn) hisR ?_
  intro p e s m args below meth c s₁ Bd hml0 hP hK
  obtain ⟨rfl, hZ, hh⟩ := hP
  have hx := Bd.exec
  have hby := Bd.bytes
  have hml : c.maxLocals = 3 := hml0
  have hown : s.vm.findClass "java/lang/StringLatin1" = some m.cls := findClass_of_methodNamed Bd.named
  have hnm := (name_of_methodNamed Bd.named Bd.method).1
  have X0 : Stand p l e ({ frames := 0, cells := 0, slots := 0, locals := 0 } : Room) s m #[(.ref t1), (.ref t2)] below meth c s₁ [] 0 0 := Stand.of_body Bd
  have e0 : s₁.heap = h0 := by rw [← hh, Bd.state]; rfl
  have N0 := Fr.nil n0
  have KP0 := Keep.refl h0 []
  refine own_go (Q := (OwnEnd s (fun v h L => v = some (.int (if bs = ds then 1 else 0)) ∧ Fr n0 L ∧ h = h0) ({ frames := 0, cells := 0, slots := 0, locals := 0 } : Room).cells ({ frames := 0, cells := 0, slots := 0, locals := 0 } : Room).slots)) ?_
  refine own_back (fun t k => castTop (leq_ef m t1 t2) k) ?_
  show OwnGo p e below (s₁.setTop (mkF m 0 #[.val (.ref t1), .val (.ref t2), .unset] [])) _
  refine own_back (fun t k => XS.aloadN X0.here hx rfl (hb hby leq_d0) rfl rfl k) ?_
  show OwnGo p e below (s₁.setTop (mkF m 1 #[.val (.ref t1), .val (.ref t2), .unset] [(.ref t1)])) _
  obtain ⟨c101, A101, q101, S101, M101, H101, U101⟩ := id V1
  refine own_back (fun t k => X0.arraylength hx (own_hat e0 A101.1) (State.isArrayOf_alike hZ.alike A101.2.1) (g := (mkF m 1 #[.val (.ref t1), .val (.ref t2), .unset] [(.ref t1)])) rfl rfl (hb hby leq_d1) t k) ?_
  rw [len_of S101 M101]
  show OwnGo p e below (s₁.setTop (mkF m 2 #[.val (.ref t1), .val (.ref t2), .unset] [(.int (Int32.ofNat bs.length))])) _
  refine own_back (fun t k => XS.aloadN X0.here hx rfl (hb hby leq_d2) rfl rfl k) ?_
  show OwnGo p e below (s₁.setTop (mkF m 3 #[.val (.ref t1), .val (.ref t2), .unset] [(.ref t2), (.int (Int32.ofNat bs.length))])) _
  obtain ⟨c102, A102, q102, S102, M102, H102, U102⟩ := id V2
  refine own_back (fun t k => X0.arraylength hx (own_hat e0 A102.1) (State.isArrayOf_alike hZ.alike A102.2.1) (g := (mkF m 3 #[.val (.ref t1), .val (.ref t2), .unset] [(.ref t2), (.int (Int32.ofNat bs.length))])) rfl rfl (hb hby leq_d3) t k) ?_
  rw [len_of S102 M102]
  show OwnGo p e below (s₁.setTop (mkF m 4 #[.val (.ref t1), .val (.ref t2), .unset] [(.int (Int32.ofNat ds.length)), (.int (Int32.ofNat bs.length))])) _
  by_cases hc4_103 : (Int32.ofNat bs.length) = (Int32.ofNat ds.length)
  · refine own_back (fun t k => XS.icmpNo X0.here hx rfl (hb hby leq_d4) rfl (Jvm.Free.XT.ii_ne_f hc4_103) k) ?_
    show OwnGo p e below (s₁.setTop (mkF m 7 #[.val (.ref t1), .val (.ref t2), .unset] [])) _
    refine own_back (fun t k => XS.iconst X0.here hx rfl (hb hby leq_d7) k) ?_
    show OwnGo p e below (s₁.setTop (mkF m 8 #[.val (.ref t1), .val (.ref t2), .unset] [(.int (0 : Int32))])) _
    refine own_back (fun t k => XS.istoreN X0.here hx rfl (hb hby leq_d8) rfl (l' := #[.val (.ref t1), .val (.ref t2), .val (.int (0 : Int32))]) rfl k) ?_
    show OwnGo p e below (s₁.setTop (mkF m 9 #[.val (.ref t1), .val (.ref t2), .val (.int (0 : Int32))] [])) _
    have hl104 : bs.length = ds.length := own_eqi (by omega) (by omega) hc4_103
    have loop : ∀ (j i : Nat), i + j = bs.length → (∀ q, q < i → bs.getD q 0 = ds.getD q 0) → OwnGo p e below (s₁.setTop (mkF m 9 #[.val (.ref t1), .val (.ref t2), .val (.int (Int32.ofNat i))] [])) (OwnEnd s (fun v h L => v = some (.int (if bs = ds then 1 else 0)) ∧ Fr n0 L ∧ h = h0) ({ frames := 0, cells := 0, slots := 0, locals := 0 } : Room).cells ({ frames := 0, cells := 0, slots := 0, locals := 0 } : Room).slots) := by
      intro j
      induction j with
      | zero =>
        intro i hi hs
        show OwnGo p e below (s₁.setTop (mkF m 9 #[.val (.ref t1), .val (.ref t2), .val (.int (Int32.ofNat i))] [])) _
        refine own_back (fun t k => XS.iloadN X0.here hx rfl (hb hby leq_d9) rfl k) ?_
        show OwnGo p e below (s₁.setTop (mkF m 10 #[.val (.ref t1), .val (.ref t2), .val (.int (Int32.ofNat i))] [(.int (Int32.ofNat i))])) _
        refine own_back (fun t k => XS.aloadN X0.here hx rfl (hb hby leq_d10) rfl rfl k) ?_
        show OwnGo p e below (s₁.setTop (mkF m 11 #[.val (.ref t1), .val (.ref t2), .val (.int (Int32.ofNat i))] [(.ref t1), (.int (Int32.ofNat i))])) _
        obtain ⟨c105, A105, q105, S105, M105, H105, U105⟩ := id V1
        refine own_back (fun t k => X0.arraylength hx (own_hat e0 A105.1) (State.isArrayOf_alike hZ.alike A105.2.1) (g := (mkF m 11 #[.val (.ref t1), .val (.ref t2), .val (.int (Int32.ofNat i))] [(.ref t1), (.int (Int32.ofNat i))])) rfl rfl (hb hby leq_d11) t k) ?_
        rw [len_of S105 M105]
        show OwnGo p e below (s₁.setTop (mkF m 12 #[.val (.ref t1), .val (.ref t2), .val (.int (Int32.ofNat i))] [(.int (Int32.ofNat bs.length)), (.int (Int32.ofNat i))])) _
        refine own_back (fun t k => XS.icmpYes X0.here hx rfl (pc0 := 12) (pc' := 32) rfl (hb hby leq_d12) rfl (Jvm.Free.XT.ii_ge_t (by rw [show i = bs.length by omega]; exact Int32.lt_irrefl)) (by decide) (by decide) k) ?_
        show OwnGo p e below (s₁.setTop (mkF m 32 #[.val (.ref t1), .val (.ref t2), .val (.int (Int32.ofNat i))] [])) _
        refine own_back (fun t k => XS.iconst X0.here hx rfl (hb hby leq_d32) k) ?_
        show OwnGo p e below (s₁.setTop (mkF m 33 #[.val (.ref t1), .val (.ref t2), .val (.int (Int32.ofNat i))] [(.int (1 : Int32))])) _
        refine own_retN X0 hx Bd.notSynchronized (t := .boolean) (z := (1 : Int32)) Bd.returns (by simp) rfl (hb hby leq_d33) e0 (Nat.le_of_ble_eq_true rfl) (Nat.le_of_ble_eq_true rfl) ?_
        exact ⟨by rw [if_pos (own_exteq hl104 (fun q hq => hs q (by omega)))], N0, rfl⟩
      | succ j ih =>
        intro i hi hs
        show OwnGo p e below (s₁.setTop (mkF m 9 #[.val (.ref t1), .val (.ref t2), .val (.int (Int32.ofNat i))] [])) _
        refine own_back (fun t k => XS.iloadN X0.here hx rfl (hb hby leq_d9) rfl k) ?_
        show OwnGo p e below (s₁.setTop (mkF m 10 #[.val (.ref t1), .val (.ref t2), .val (.int (Int32.ofNat i))] [(.int (Int32.ofNat i))])) _
        refine own_back (fun t k => XS.aloadN X0.here hx rfl (hb hby leq_d10) rfl rfl k) ?_
        show OwnGo p e below (s₁.setTop (mkF m 11 #[.val (.ref t1), .val (.ref t2), .val (.int (Int32.ofNat i))] [(.ref t1), (.int (Int32.ofNat i))])) _
        obtain ⟨c106, A106, q106, S106, M106, H106, U106⟩ := id V1
        refine own_back (fun t k => X0.arraylength hx (own_hat e0 A106.1) (State.isArrayOf_alike hZ.alike A106.2.1) (g := (mkF m 11 #[.val (.ref t1), .val (.ref t2), .val (.int (Int32.ofNat i))] [(.ref t1), (.int (Int32.ofNat i))])) rfl rfl (hb hby leq_d11) t k) ?_
        rw [len_of S106 M106]
        show OwnGo p e below (s₁.setTop (mkF m 12 #[.val (.ref t1), .val (.ref t2), .val (.int (Int32.ofNat i))] [(.int (Int32.ofNat bs.length)), (.int (Int32.ofNat i))])) _
        refine own_back (fun t k => XS.icmpNo X0.here hx rfl (hb hby leq_d12) rfl (Jvm.Free.XT.ii_ge_f (own_lti (by omega) (by omega))) k) ?_
        show OwnGo p e below (s₁.setTop (mkF m 15 #[.val (.ref t1), .val (.ref t2), .val (.int (Int32.ofNat i))] [])) _
        refine own_back (fun t k => XS.aloadN X0.here hx rfl (hb hby leq_d15) rfl rfl k) ?_
        show OwnGo p e below (s₁.setTop (mkF m 16 #[.val (.ref t1), .val (.ref t2), .val (.int (Int32.ofNat i))] [(.ref t1)])) _
        refine own_back (fun t k => XS.iloadN X0.here hx rfl (hb hby leq_d16) rfl k) ?_
        show OwnGo p e below (s₁.setTop (mkF m 17 #[.val (.ref t1), .val (.ref t2), .val (.int (Int32.ofNat i))] [(.int (Int32.ofNat i)), (.ref t1)])) _
        obtain ⟨c107, A107, q107, S107, M107, H107, U107⟩ := id V1
        have ib108 : ¬ ((Int32.ofNat i) < 0 ∨ c107.slots.size ≤ ((Int32.ofNat i)).toNatClampNeg) := (inb_of S107 ⟨own_nn (by omega), own_lti (by omega) (by omega)⟩)
        refine own_back (fun t k => X0.baloadBytes hx (j := (Int32.ofNat i)) (v := (.int (bs.getD i 0))) (own_hat e0 A107.1) (State.isArrayOf_alike hZ.alike A107.2.1) A107.2.2 ib108 (H107.at ib108 (own_mapget bs i (by omega))) (g := (mkF m 17 #[.val (.ref t1), .val (.ref t2), .val (.int (Int32.ofNat i))] [(.int (Int32.ofNat i)), (.ref t1)])) rfl rfl (hb hby leq_d17) t k) ?_
        show OwnGo p e below (s₁.setTop (mkF m 18 #[.val (.ref t1), .val (.ref t2), .val (.int (Int32.ofNat i))] [(.int (bs.getD i 0))])) _
        refine own_back (fun t k => XS.aloadN X0.here hx rfl (hb hby leq_d18) rfl rfl k) ?_
        show OwnGo p e below (s₁.setTop (mkF m 19 #[.val (.ref t1), .val (.ref t2), .val (.int (Int32.ofNat i))] [(.ref t2), (.int (bs.getD i 0))])) _
        refine own_back (fun t k => XS.iloadN X0.here hx rfl (hb hby leq_d19) rfl k) ?_
        show OwnGo p e below (s₁.setTop (mkF m 20 #[.val (.ref t1), .val (.ref t2), .val (.int (Int32.ofNat i))] [(.int (Int32.ofNat i)), (.ref t2), (.int (bs.getD i 0))])) _
        obtain ⟨c109, A109, q109, S109, M109, H109, U109⟩ := id V2
        have ib110 : ¬ ((Int32.ofNat i) < 0 ∨ c109.slots.size ≤ ((Int32.ofNat i)).toNatClampNeg) := (inb_of S109 ⟨own_nn (by omega), own_lti (by omega) (by omega)⟩)
        refine own_back (fun t k => X0.baloadBytes hx (j := (Int32.ofNat i)) (v := (.int (ds.getD i 0))) (own_hat e0 A109.1) (State.isArrayOf_alike hZ.alike A109.2.1) A109.2.2 ib110 (H109.at ib110 (own_mapget ds i (by omega))) (g := (mkF m 20 #[.val (.ref t1), .val (.ref t2), .val (.int (Int32.ofNat i))] [(.int (Int32.ofNat i)), (.ref t2), (.int (bs.getD i 0))])) rfl rfl (hb hby leq_d20) t k) ?_
        show OwnGo p e below (s₁.setTop (mkF m 21 #[.val (.ref t1), .val (.ref t2), .val (.int (Int32.ofNat i))] [(.int (ds.getD i 0)), (.int (bs.getD i 0))])) _
        by_cases hc21_111 : (bs.getD i 0) = (ds.getD i 0)
        · refine own_back (fun t k => XS.icmpYes X0.here hx rfl (pc0 := 21) (pc' := 26) rfl (hb hby leq_d21) rfl (Jvm.Free.XT.ii_eq_t hc21_111) (by decide) (by decide) k) ?_
          show OwnGo p e below (s₁.setTop (mkF m 26 #[.val (.ref t1), .val (.ref t2), .val (.int (Int32.ofNat i))] [])) _
          refine own_back (fun t k => XS.iinc X0.here hx rfl (hb hby leq_d26) rfl (l' := #[.val (.ref t1), .val (.ref t2), .val (.int ((Int32.ofNat i) + (1 : Int32)))]) rfl k) ?_
          show OwnGo p e below (s₁.setTop (mkF m 29 #[.val (.ref t1), .val (.ref t2), .val (.int ((Int32.ofNat i) + (1 : Int32)))] [])) _
          refine own_back (fun t k => XS.goto X0.here hx rfl (pc0 := 29) (pc' := 9) rfl (hb hby leq_d29) (by decide) (by decide) k) ?_
          show OwnGo p e below (s₁.setTop (mkF m 9 #[.val (.ref t1), .val (.ref t2), .val (.int ((Int32.ofNat i) + (1 : Int32)))] [])) _
          rw [own_suci]
          refine ih (i + 1) (by omega) (fun q hq => ?_)
          rcases Nat.lt_succ_iff_lt_or_eq.mp hq with h | h
          · exact hs q h
          · rw [h]; exact hc21_111
        · refine own_back (fun t k => XS.icmpNo X0.here hx rfl (hb hby leq_d21) rfl (Jvm.Free.XT.ii_eq_f hc21_111) k) ?_
          show OwnGo p e below (s₁.setTop (mkF m 24 #[.val (.ref t1), .val (.ref t2), .val (.int (Int32.ofNat i))] [])) _
          refine own_back (fun t k => XS.iconst X0.here hx rfl (hb hby leq_d24) k) ?_
          show OwnGo p e below (s₁.setTop (mkF m 25 #[.val (.ref t1), .val (.ref t2), .val (.int (Int32.ofNat i))] [(.int (0 : Int32))])) _
          refine own_retN X0 hx Bd.notSynchronized (t := .boolean) (z := (0 : Int32)) Bd.returns (by simp) rfl (hb hby leq_d25) e0 (Nat.le_of_ble_eq_true rfl) (Nat.le_of_ble_eq_true rfl) ?_
          exact ⟨by rw [if_neg (fun q => hc21_111 (by rw [q]))], N0, rfl⟩
    exact loop bs.length 0 (by omega) (fun q hq => absurd hq (Nat.not_lt_zero _))
  · refine own_back (fun t k => XS.icmpYes X0.here hx rfl (pc0 := 4) (pc' := 34) rfl (hb hby leq_d4) rfl (Jvm.Free.XT.ii_ne_t hc4_103) (by decide) (by decide) k) ?_
    show OwnGo p e below (s₁.setTop (mkF m 34 #[.val (.ref t1), .val (.ref t2), .unset] [])) _
    refine own_back (fun t k => XS.iconst X0.here hx rfl (hb hby leq_d34) k) ?_
    show OwnGo p e below (s₁.setTop (mkF m 35 #[.val (.ref t1), .val (.ref t2), .unset] [(.int (0 : Int32))])) _
    refine own_retN X0 hx Bd.notSynchronized (t := .boolean) (z := (0 : Int32)) Bd.returns (by simp) rfl (hb hby leq_d35) e0 (Nat.le_of_ble_eq_true rfl) (Nat.le_of_ble_eq_true rfl) ?_
    exact ⟨by rw [if_neg (fun q => hc4_103 (by rw [q]))], N0, rfl⟩
theorem own_ite0 {P : Prop} [Decidable P] (h : (if P then (1 : Int32) else 0) = 0) : (if P then (1 : Int32) else 0) = 0 := h
theorem own_ite1 {P : Prop} [Decidable P] (h : ¬ (if P then (1 : Int32) else 0) = 0) : (if P then (1 : Int32) else 0) = 1 := by
  by_cases q : P
  · exact if_pos q
  · exact absurd (if_neg q) h
theorem own_arvget {Z : State} {h : Heap} {t : Addr} {k k' : ClassId} {ty ty' : FieldType} {z z' : Int32} {vs vs' : List Value} {d d' : Value} (A : Arv Z h t k ty z vs d) (B : Arv Z h t k' ty' z' vs' d') : z.toNatClampNeg = z'.toNatClampNeg ∧ ∀ i, i < z.toNatClampNeg → vs.getD i d = vs'.getD i d' := by
  obtain ⟨c, A1, -, A3, -, A5, -⟩ := A
  obtain ⟨c', B1, -, B3, -, B5, -⟩ := B
  cases A1.1.symm.trans B1.1
  refine ⟨A3.symm.trans B3, fun i hi => ?_⟩
  have q1 := A5 i (by omega)
  have q2 := B5 i (by omega)
  exact Option.some.inj (q1.symm.trans q2)
theorem own_sameb {Z : State} {h : Heap} {a : Addr} {bs ds : List Int32} (F : OwnStr Z h a bs) (G : OwnStr Z h a ds) : bs = ds := by
  obtain ⟨t, k, h1, h2, h3, h4, h5⟩ := F
  obtain ⟨t', k', g1, g2, g3, g4, g5⟩ := G
  have e : t = t' := Decidable.byContradiction fun q => Fld.ne h3 g3 (fun z => q (Value.ref.inj z)) rfl
  subst e
  obtain ⟨q1, q2⟩ := own_arvget h4 g4
  rw [own_clamp (by omega), own_clamp (by omega)] at q1
  rw [own_clamp (by omega)] at q2
  refine own_exteq q1 fun j hj => ?_
  have := q2 j hj
  have e1 := own_mapget bs j (by omega)
  have e2 := own_mapget ds j (by omega)
  rw [own_clamp (by omega)] at e1 e2
  rw [e1, e2] at this
  exact Value.int.inj this
theorem seq_d0 : decode jdk_42_method_66_code 0 = .ok (.aload_n 0, 1) := by decide +kernel
theorem seq_d1 : decode jdk_42_method_66_code 1 = .ok (.aload_n 1, 1) := by decide +kernel
theorem seq_d2 : decode jdk_42_method_66_code 2 = .ok (.if_acmp .ne 5, 3) := by decide +kernel
theorem seq_d5 : decode jdk_42_method_66_code 5 = .ok (.iconst 1, 1) := by decide +kernel
theorem seq_d6 : decode jdk_42_method_66_code 6 = .ok (.ireturn, 1) := by decide +kernel
theorem seq_d7 : decode jdk_42_method_66_code 7 = .ok (.aload_n 1, 1) := by decide +kernel
theorem seq_d8 : decode jdk_42_method_66_code 8 = .ok (.instanceof 10, 3) := by decide +kernel
theorem seq_d11 : decode jdk_42_method_66_code 11 = .ok (.ifCond .eq 43, 3) := by decide +kernel
theorem seq_d14 : decode jdk_42_method_66_code 14 = .ok (.aload_n 1, 1) := by decide +kernel
theorem seq_d15 : decode jdk_42_method_66_code 15 = .ok (.checkcast 10, 3) := by decide +kernel
theorem seq_d18 : decode jdk_42_method_66_code 18 = .ok (.astore_n 2, 1) := by decide +kernel
theorem seq_d19 : decode jdk_42_method_66_code 19 = .ok (.getstatic 38, 3) := by decide +kernel
theorem seq_d22 : decode jdk_42_method_66_code 22 = .ok (.ifCond .eq 14, 3) := by decide +kernel
theorem seq_d25 : decode jdk_42_method_66_code 25 = .ok (.aload_n 0, 1) := by decide +kernel
theorem seq_d26 : decode jdk_42_method_66_code 26 = .ok (.getfield 15, 3) := by decide +kernel
theorem seq_d29 : decode jdk_42_method_66_code 29 = .ok (.aload_n 2, 1) := by decide +kernel
theorem seq_d30 : decode jdk_42_method_66_code 30 = .ok (.getfield 15, 3) := by decide +kernel
theorem seq_d33 : decode jdk_42_method_66_code 33 = .ok (.if_icmp .ne 21, 3) := by decide +kernel
theorem seq_d36 : decode jdk_42_method_66_code 36 = .ok (.aload_n 0, 1) := by decide +kernel
theorem seq_d37 : decode jdk_42_method_66_code 37 = .ok (.getfield 9, 3) := by decide +kernel
theorem seq_d40 : decode jdk_42_method_66_code 40 = .ok (.aload_n 2, 1) := by decide +kernel
theorem seq_d41 : decode jdk_42_method_66_code 41 = .ok (.getfield 9, 3) := by decide +kernel
theorem seq_d44 : decode jdk_42_method_66_code 44 = .ok (.invokestatic 541, 3) := by decide +kernel
theorem seq_d47 : decode jdk_42_method_66_code 47 = .ok (.ifCond .eq 7, 3) := by decide +kernel
theorem seq_d50 : decode jdk_42_method_66_code 50 = .ok (.iconst 1, 1) := by decide +kernel
theorem seq_d51 : decode jdk_42_method_66_code 51 = .ok (.goto 4, 3) := by decide +kernel
theorem seq_d54 : decode jdk_42_method_66_code 54 = .ok (.iconst 0, 1) := by decide +kernel
theorem seq_d55 : decode jdk_42_method_66_code 55 = .ok (.ireturn, 1) := by decide +kernel
theorem seq_pn : plainName "java/lang/String" = true := by first | (simp [plainName, overriddenIn]; done) | decide +kernel
theorem seq_pd0 : parseMethodDescriptor "([B[B)Z" = some ⟨[(.array .byte), (.array .byte)], some .boolean⟩ := by decide +kernel
theorem seq_ef (m : MethodId) (x0 : Addr) (x1 : Addr) : entryFrame m #[(.ref x0), (.ref x1)] 3 = mkF m 0 #[.val (.ref x0), .val (.ref x1), .unset] [] := by first | (simp [entryFrame, mkF, argsToLocals, Value.category]; done) | rfl
set_option maxRecDepth 65536 in
set_option maxHeartbeats 40000000 in
theorem rm_seq (l : Launch) (Z : State) (a0 : Array Value) (hw : ∀ d ∈ tables_1, d.before a0 Z = true) (ws : List Jvm.Cond) (a1 : Addr) (a2 : Addr) (bs : List Int32) (ds : List Int32) (cz : Int32) (h0 : Heap) (n0 : Nat) (Z0 : n0 ≤ h0.size) (OL : Old Z n0 h0) (B1 : OwnStr Z h0 a1 bs) (B2 : OwnStr Z h0 a2 ds) (SC : Sta Z Z.heap "java/lang/String" "COMPACT_STRINGS" "Z" (.int cz)) (hcz : ¬ cz = 0) :
    MetFree l (⟨"java/lang/String", "equals", "(Ljava/lang/Object;)Z"⟩ : MethodName) (head1 (Jvm.Cond.code (⟨"java/lang/String", "equals", "(Ljava/lang/Object;)Z"⟩ : MethodName) jdk_42_method_66_code 3 (some .boolean) :: ws) ({ frames := 1, cells := 0, slots := 0, locals := 20 } : Room)) (fun a U => a = #[(.ref a1), (.ref a2)] ∧ Z.Warmed39 U.vm ∧ U.heap = h0) (fun _ _ _ _ _ => True) (fun _ U o U' => OwnEnd U (fun v h L => v = some (.int (if bs = ds then 1 else 0)) ∧ Fr n0 L ∧ h = h0) ({ frames := 1, cells := 0, slots := 0, locals := 20 } : Room).cells ({ frames := 1, cells := 0, slots := 0, locals := 20 } : Room).slots o U') := by
  refine MetFree.of_bodySF (plainFor_of_name seq_pn) hisR ?_
  intro p e s m args below meth c s₁ Bd hml0 hP hK
  obtain ⟨rfl, hZ, hh⟩ := hP
  have hx := Bd.exec
  have hby := Bd.bytes
  have hml : c.maxLocals = 3 := hml0
  have hown : s.vm.findClass "java/lang/String" = some m.cls := findClass_of_methodNamed Bd.named
  have hnm := (name_of_methodNamed Bd.named Bd.method).1
  have X0 : Stand p l e ({ frames := 1, cells := 0, slots := 0, locals := 20 } : Room) s m #[(.ref a1), (.ref a2)] below meth c s₁ [] 0 0 := Stand.of_body Bd
  have e0 : s₁.heap = h0 := by rw [← hh, Bd.state]; rfl
  have N0 := Fr.nil n0
  have KP0 := Keep.refl h0 []
  refine own_go (Q := (OwnEnd s (fun v h L => v = some (.int (if bs = ds then 1 else 0)) ∧ Fr n0 L ∧ h = h0) ({ frames := 1, cells := 0, slots := 0, locals := 20 } : Room).cells ({ frames := 1, cells := 0, slots := 0, locals := 20 } : Room).slots)) ?_
  refine own_back (fun t k => castTop (seq_ef m a1 a2) k) ?_
  show OwnGo p e below (s₁.setTop (mkF m 0 #[.val (.ref a1), .val (.ref a2), .unset] [])) _
  obtain ⟨t1, k1, E1, C1, F1, V1, m1⟩ := B1
  obtain ⟨t2, k2, E2, C2, F2, V2, m2⟩ := B2
  refine own_back (fun t k => XS.aloadN X0.here hx rfl (hb hby seq_d0) rfl rfl k) ?_
  show OwnGo p e below (s₁.setTop (mkF m 1 #[.val (.ref a1), .val (.ref a2), .unset] [(.ref a1)])) _
  refine own_back (fun t k => XS.aloadN X0.here hx rfl (hb hby seq_d1) rfl rfl k) ?_
  show OwnGo p e below (s₁.setTop (mkF m 2 #[.val (.ref a1), .val (.ref a2), .unset] [(.ref a2), (.ref a1)])) _
  by_cases ha2_112 : a1 = a2
  · refine own_back (fun t k => Jvm.RoadKit.acmp (g := (mkF m 2 #[.val (.ref a1), .val (.ref a2), .unset] [(.ref a2), (.ref a1)])) X0 hx rfl rfl rfl (pc0 := 2) (pc' := 5) (same := true) rfl (hb hby seq_d2) rfl (decide_eq_true (congrArg Value.ref ha2_112)) (by decide) (by decide) k) ?_
    show OwnGo p e below (s₁.setTop (mkF m 5 #[.val (.ref a1), .val (.ref a2), .unset] [])) _
    refine own_back (fun t k => XS.iconst X0.here hx rfl (hb hby seq_d5) k) ?_
    show OwnGo p e below (s₁.setTop (mkF m 6 #[.val (.ref a1), .val (.ref a2), .unset] [(.int (1 : Int32))])) _
    refine own_retN X0 hx Bd.notSynchronized (t := .boolean) (z := (1 : Int32)) Bd.returns (by simp) rfl (hb hby seq_d6) e0 (Nat.le_of_ble_eq_true rfl) (Nat.le_of_ble_eq_true rfl) ?_
    exact ⟨by rw [if_pos (own_sameb (by exact ⟨_, _, E1, C1, F1, V1, m1⟩) (by rw [ha2_112]; exact ⟨_, _, E2, C2, F2, V2, m2⟩))], N0, rfl⟩
  · refine own_back (fun t k => Jvm.RoadKit.acmp (g := (mkF m 2 #[.val (.ref a1), .val (.ref a2), .unset] [(.ref a2), (.ref a1)])) X0 hx rfl rfl rfl (pc0 := 2) (pc' := 7) (same := false) rfl (hb hby seq_d2) rfl (decide_eq_false fun q => ha2_112 (Value.ref.inj q)) (by decide) (by decide) k) ?_
    show OwnGo p e below (s₁.setTop (mkF m 7 #[.val (.ref a1), .val (.ref a2), .unset] [])) _
    refine own_back (fun t k => XS.aloadN X0.here hx rfl (hb hby seq_d7) rfl rfl k) ?_
    show OwnGo p e below (s₁.setTop (mkF m 8 #[.val (.ref a1), .val (.ref a2), .unset] [(.ref a2)])) _
    obtain ⟨T113, X113, e113, st113⟩ := instY X0 hx hZ hown (hw _ (List.mem_of_getElem? (i := 48) rfl)) e0 (Ins.self E2) (g := (mkF m 8 #[.val (.ref a1), .val (.ref a2), .unset] [(.ref a2)])) rfl rfl (hb hby seq_d8)
    refine own_back st113 ?_
    show OwnGo p e below (T113.setTop (mkF m 11 #[.val (.ref a1), .val (.ref a2), .unset] [(.int (1 : Int32))])) _
    refine own_back (fun t k => XS.ifNo X113.here hx rfl (hb hby seq_d11) rfl (Jvm.Free.XT.i0_eq_f (by decide)) k) ?_
    show OwnGo p e below (T113.setTop (mkF m 14 #[.val (.ref a1), .val (.ref a2), .unset] [])) _
    refine own_back (fun t k => XS.aloadN X113.here hx rfl (hb hby seq_d14) rfl rfl k) ?_
    show OwnGo p e below (T113.setTop (mkF m 15 #[.val (.ref a1), .val (.ref a2), .unset] [(.ref a2)])) _
    obtain ⟨T114, X114, e114, st114⟩ := castY X113 hx hZ hown (hw _ (List.mem_of_getElem? (i := 48) rfl)) e113 (Ins.self E2) (g := (mkF m 15 #[.val (.ref a1), .val (.ref a2), .unset] [(.ref a2)])) rfl rfl (hb hby seq_d15)
    refine own_back st114 ?_
    show OwnGo p e below (T114.setTop (mkF m 18 #[.val (.ref a1), .val (.ref a2), .unset] [(.ref a2)])) _
    refine own_back (fun t k => XS.astoreN X114.here hx rfl (hb hby seq_d18) rfl rfl (l' := #[.val (.ref a1), .val (.ref a2), .val (.ref a2)]) rfl k) ?_
    show OwnGo p e below (T114.setTop (mkF m 19 #[.val (.ref a1), .val (.ref a2), .val (.ref a2)] [])) _
    obtain ⟨T115, X115, e115, st115⟩ := getS2 X114 hx hZ hown (host := "") (Or.inl (hw _ (List.mem_of_getElem? (i := 18) rfl))) Via.refl e114 (SC.ext OL.2) (g := (mkF m 19 #[.val (.ref a1), .val (.ref a2), .val (.ref a2)] [])) rfl (hb hby seq_d19)
    refine own_back st115 ?_
    show OwnGo p e below (T115.setTop (mkF m 22 #[.val (.ref a1), .val (.ref a2), .val (.ref a2)] [(.int cz)])) _
    refine own_back (fun t k => XS.ifNo X115.here hx rfl (hb hby seq_d22) rfl (Jvm.Free.XT.i0_eq_f hcz) k) ?_
    show OwnGo p e below (T115.setTop (mkF m 25 #[.val (.ref a1), .val (.ref a2), .val (.ref a2)] [])) _
    refine own_back (fun t k => XS.aloadN X115.here hx rfl (hb hby seq_d25) rfl rfl k) ?_
    show OwnGo p e below (T115.setTop (mkF m 26 #[.val (.ref a1), .val (.ref a2), .val (.ref a2)] [(.ref a1)])) _
    obtain ⟨T116, X116, e116, st116⟩ := getF X115 hx hZ hown (host := "") (Or.inl (hw _ (List.mem_of_getElem? (i := 30) rfl))) Via.refl e115 C1 (g := (mkF m 26 #[.val (.ref a1), .val (.ref a2), .val (.ref a2)] [(.ref a1)])) rfl rfl (hb hby seq_d26)
    refine own_back st116 ?_
    show OwnGo p e below (T116.setTop (mkF m 29 #[.val (.ref a1), .val (.ref a2), .val (.ref a2)] [(.int (0 : Int32))])) _
    refine own_back (fun t k => XS.aloadN X116.here hx rfl (hb hby seq_d29) rfl rfl k) ?_
    show OwnGo p e below (T116.setTop (mkF m 30 #[.val (.ref a1), .val (.ref a2), .val (.ref a2)] [(.ref a2), (.int (0 : Int32))])) _
    obtain ⟨T117, X117, e117, st117⟩ := getF X116 hx hZ hown (host := "") (Or.inl (hw _ (List.mem_of_getElem? (i := 30) rfl))) Via.refl e116 C2 (g := (mkF m 30 #[.val (.ref a1), .val (.ref a2), .val (.ref a2)] [(.ref a2), (.int (0 : Int32))])) rfl rfl (hb hby seq_d30)
    refine own_back st117 ?_
    show OwnGo p e below (T117.setTop (mkF m 33 #[.val (.ref a1), .val (.ref a2), .val (.ref a2)] [(.int (0 : Int32)), (.int (0 : Int32))])) _
    refine own_back (fun t k => XS.icmpNo X117.here hx rfl (hb hby seq_d33) rfl (Jvm.Free.XT.ii_ne_f (by decide)) k) ?_
    show OwnGo p e below (T117.setTop (mkF m 36 #[.val (.ref a1), .val (.ref a2), .val (.ref a2)] [])) _
    refine own_back (fun t k => XS.aloadN X117.here hx rfl (hb hby seq_d36) rfl rfl k) ?_
    show OwnGo p e below (T117.setTop (mkF m 37 #[.val (.ref a1), .val (.ref a2), .val (.ref a2)] [(.ref a1)])) _
    obtain ⟨T118, X118, e118, st118⟩ := getF X117 hx hZ hown (host := "") (Or.inl (hw _ (List.mem_of_getElem? (i := 32) rfl))) Via.refl e117 F1 (g := (mkF m 37 #[.val (.ref a1), .val (.ref a2), .val (.ref a2)] [(.ref a1)])) rfl rfl (hb hby seq_d37)
    refine own_back st118 ?_
    show OwnGo p e below (T118.setTop (mkF m 40 #[.val (.ref a1), .val (.ref a2), .val (.ref a2)] [(.ref t1)])) _
    refine own_back (fun t k => XS.aloadN X118.here hx rfl (hb hby seq_d40) rfl rfl k) ?_
    show OwnGo p e below (T118.setTop (mkF m 41 #[.val (.ref a1), .val (.ref a2), .val (.ref a2)] [(.ref a2), (.ref t1)])) _
    obtain ⟨T119, X119, e119, st119⟩ := getF X118 hx hZ hown (host := "") (Or.inl (hw _ (List.mem_of_getElem? (i := 32) rfl))) Via.refl e118 F2 (g := (mkF m 41 #[.val (.ref a1), .val (.ref a2), .val (.ref a2)] [(.ref a2), (.ref t1)])) rfl rfl (hb hby seq_d41)
    refine own_back st119 ?_
    show OwnGo p e below (T119.setTop (mkF m 44 #[.val (.ref a1), .val (.ref a2), .val (.ref a2)] [(.ref t2), (.ref t1)])) _
    obtain ⟨_, _, ⟨T120, L120, k120, n120⟩, -, X120, ⟨Lc120, hQ120, l120, y120, z120⟩, st120⟩ := Jvm.LawKit.callS X119 hx (y := (⟨"java/lang/StringLatin1", "equals", "([B[B)Z"⟩ : MethodName)) hown (mvT hZ (hw _ (List.mem_of_getElem? (i := 49) rfl))) (mvT hZ (hw _ (List.mem_of_getElem? (i := 50) rfl))) (mvT hZ (hw _ (List.mem_of_getElem? (i := 51) rfl))) (mvT hZ (hw _ (List.mem_of_getElem? (i := 52) rfl))) (by decide) (own_backN (W := 0) (rm_leq l Z a0 hw [] t1 t2 k1 k2 bs ds h0 n0 Z0 V1 V2 m1 m2) hZ (hw _ (List.mem_of_getElem? (i := 52) rfl)) (hw _ (List.mem_of_getElem? (i := 51) rfl)) (by decide) (by decide)) (g := (mkF m 44 #[.val (.ref a1), .val (.ref a2), .val (.ref a2)] [(.ref t2), (.ref t1)])) rfl (by rw [hml]; rfl) (argsL := [(.ref t1), (.ref t2)]) (rest := []) (lenOf seq_pd0 rfl) rfl (by show 2 * 0 + _ ≤ _; exact Nat.le_of_eq rfl) (hb hby seq_d44) (fun _ _ => ⟨rfl, e119, Nat.le_of_ble_eq_true rfl, Nat.le_of_ble_eq_true rfl⟩)
    dsimp only [Pt.U, Pt.locs, Pt.cells, Pt.slots] at X120 l120 y120 z120 st120 hQ120
    subst l120 y120 z120
    obtain ⟨rfl, N120q, hh120⟩ := hQ120
    refine own_back st120 ?_
    have N120 := Fr.app N0 N120q
    show OwnGo p e below (T120.setTop (mkF m 47 #[.val (.ref a1), .val (.ref a2), .val (.ref a2)] [(.int (if bs = ds then (1 : Int32) else 0))])) _
    by_cases hc47_121 : (if bs = ds then (1 : Int32) else 0) = (0 : Int32)
    · refine own_back (fun t k => XS.ifYes X120.here hx rfl (pc0 := 47) (pc' := 54) rfl (hb hby seq_d47) rfl (Jvm.Free.XT.i0_eq_t hc47_121) (by decide) (by decide) k) ?_
      show OwnGo p e below (T120.setTop (mkF m 54 #[.val (.ref a1), .val (.ref a2), .val (.ref a2)] [])) _
      refine own_back (fun t k => XS.iconst X120.here hx rfl (hb hby seq_d54) k) ?_
      show OwnGo p e below (T120.setTop (mkF m 55 #[.val (.ref a1), .val (.ref a2), .val (.ref a2)] [(.int (0 : Int32))])) _
      refine own_retN X120 hx Bd.notSynchronized (t := .boolean) (z := (0 : Int32)) Bd.returns (by simp) rfl (hb hby seq_d55) hh120 (Nat.le_of_ble_eq_true rfl) (Nat.le_of_ble_eq_true rfl) ?_
      exact ⟨by rw [own_ite0 hc47_121], N120, rfl⟩
    · refine own_back (fun t k => XS.ifNo X120.here hx rfl (hb hby seq_d47) rfl (Jvm.Free.XT.i0_eq_f hc47_121) k) ?_
      show OwnGo p e below (T120.setTop (mkF m 50 #[.val (.ref a1), .val (.ref a2), .val (.ref a2)] [])) _
      refine own_back (fun t k => XS.iconst X120.here hx rfl (hb hby seq_d50) k) ?_
      show OwnGo p e below (T120.setTop (mkF m 51 #[.val (.ref a1), .val (.ref a2), .val (.ref a2)] [(.int (1 : Int32))])) _
      refine own_back (fun t k => XS.goto X120.here hx rfl (pc0 := 51) (pc' := 55) rfl (hb hby seq_d51) (by decide) (by decide) k) ?_
      show OwnGo p e below (T120.setTop (mkF m 55 #[.val (.ref a1), .val (.ref a2), .val (.ref a2)] [(.int (1 : Int32))])) _
      refine own_retN X120 hx Bd.notSynchronized (t := .boolean) (z := (1 : Int32)) Bd.returns (by simp) rfl (hb hby seq_d55) hh120 (Nat.le_of_ble_eq_true rfl) (Nat.le_of_ble_eq_true rfl) ?_
      exact ⟨by rw [own_ite1 hc47_121], N120, rfl⟩
theorem seqn_d0 : decode jdk_42_method_66_code 0 = .ok (.aload_n 0, 1) := by decide +kernel
theorem seqn_d1 : decode jdk_42_method_66_code 1 = .ok (.aload_n 1, 1) := by decide +kernel
theorem seqn_d2 : decode jdk_42_method_66_code 2 = .ok (.if_acmp .ne 5, 3) := by decide +kernel
theorem seqn_d7 : decode jdk_42_method_66_code 7 = .ok (.aload_n 1, 1) := by decide +kernel
theorem seqn_d8 : decode jdk_42_method_66_code 8 = .ok (.instanceof 10, 3) := by decide +kernel
theorem seqn_d11 : decode jdk_42_method_66_code 11 = .ok (.ifCond .eq 43, 3) := by decide +kernel
theorem seqn_d54 : decode jdk_42_method_66_code 54 = .ok (.iconst 0, 1) := by decide +kernel
theorem seqn_d55 : decode jdk_42_method_66_code 55 = .ok (.ireturn, 1) := by decide +kernel
theorem seqn_pn : plainName "java/lang/String" = true := by first | (simp [plainName, overriddenIn]; done) | decide +kernel
theorem seqn_ef (m : MethodId) (x0 : Addr) : entryFrame m #[(.ref x0), .null] 3 = mkF m 0 #[.val (.ref x0), .val .null, .unset] [] := by first | (simp [entryFrame, mkF, argsToLocals, Value.category]; done) | rfl
set_option maxRecDepth 65536 in
set_option maxHeartbeats 40000000 in
theorem rm_seqn (l : Launch) (Z : State) (a0 : Array Value) (hw : ∀ d ∈ tables_1, d.before a0 Z = true) (ws : List Jvm.Cond) (a1 : Addr) (h0 : Heap) (n0 : Nat) (Z0 : n0 ≤ h0.size)  :
    MetFree l (⟨"java/lang/String", "equals", "(Ljava/lang/Object;)Z"⟩ : MethodName) (head1 (Jvm.Cond.code (⟨"java/lang/String", "equals", "(Ljava/lang/Object;)Z"⟩ : MethodName) jdk_42_method_66_code 3 (some .boolean) :: ws) ({ frames := 0, cells := 0, slots := 0, locals := 0 } : Room)) (fun a U => a = #[(.ref a1), .null] ∧ Z.Warmed39 U.vm ∧ U.heap = h0) (fun _ _ _ _ _ => True) (fun _ U o U' => OwnEnd U (fun v h L => v = some (.int 0) ∧ Fr n0 L ∧ h = h0) ({ frames := 0, cells := 0, slots := 0, locals := 0 } : Room).cells ({ frames := 0, cells := 0, slots := 0, locals := 0 } : Room).slots o U') := by
  refine MetFree.of_bodySF (plainFor_of_name seqn_pn) hisR ?_
  intro p e s m args below meth c s₁ Bd hml0 hP hK
  obtain ⟨rfl, hZ, hh⟩ := hP
  have hx := Bd.exec
  have hby := Bd.bytes
  have hml : c.maxLocals = 3 := hml0
  have hown : s.vm.findClass "java/lang/String" = some m.cls := findClass_of_methodNamed Bd.named
  have hnm := (name_of_methodNamed Bd.named Bd.method).1
  have X0 : Stand p l e ({ frames := 0, cells := 0, slots := 0, locals := 0 } : Room) s m #[(.ref a1), .null] below meth c s₁ [] 0 0 := Stand.of_body Bd
  have e0 : s₁.heap = h0 := by rw [← hh, Bd.state]; rfl
  have N0 := Fr.nil n0
  have KP0 := Keep.refl h0 []
  refine own_go (Q := (OwnEnd s (fun v h L => v = some (.int 0) ∧ Fr n0 L ∧ h = h0) ({ frames := 0, cells := 0, slots := 0, locals := 0 } : Room).cells ({ frames := 0, cells := 0, slots := 0, locals := 0 } : Room).slots)) ?_
  refine own_back (fun t k => castTop (seqn_ef m a1) k) ?_
  show OwnGo p e below (s₁.setTop (mkF m 0 #[.val (.ref a1), .val .null, .unset] [])) _
  refine own_back (fun t k => XS.aloadN X0.here hx rfl (hb hby seqn_d0) rfl rfl k) ?_
  show OwnGo p e below (s₁.setTop (mkF m 1 #[.val (.ref a1), .val .null, .unset] [(.ref a1)])) _
  refine own_back (fun t k => XS.aloadN X0.here hx rfl (hb hby seqn_d1) rfl rfl k) ?_
  show OwnGo p e below (s₁.setTop (mkF m 2 #[.val (.ref a1), .val .null, .unset] [.null, (.ref a1)])) _
  refine own_back (fun t k => Jvm.RoadKit.acmp (g := (mkF m 2 #[.val (.ref a1), .val .null, .unset] [.null, (.ref a1)])) X0 hx rfl rfl rfl (pc0 := 2) (pc' := 7) (same := false) rfl (hb hby seqn_d2) rfl (decide_eq_false nofun) (by decide) (by decide) k) ?_
  show OwnGo p e below (s₁.setTop (mkF m 7 #[.val (.ref a1), .val .null, .unset] [])) _
  refine own_back (fun t k => XS.aloadN X0.here hx rfl (hb hby seqn_d7) rfl rfl k) ?_
  show OwnGo p e below (s₁.setTop (mkF m 8 #[.val (.ref a1), .val .null, .unset] [.null])) _
  refine own_back (fun t k => X0.instanceofNull hx (g := (mkF m 8 #[.val (.ref a1), .val .null, .unset] [.null])) rfl rfl (hb hby seqn_d8) t k) ?_
  show OwnGo p e below (s₁.setTop (mkF m 11 #[.val (.ref a1), .val .null, .unset] [(.int (0 : Int32))])) _
  refine own_back (fun t k => XS.ifYes X0.here hx rfl (pc0 := 11) (pc' := 54) rfl (hb hby seqn_d11) rfl (Jvm.Free.XT.i0_eq_t (by decide)) (by decide) (by decide) k) ?_
  show OwnGo p e below (s₁.setTop (mkF m 54 #[.val (.ref a1), .val .null, .unset] [])) _
  refine own_back (fun t k => XS.iconst X0.here hx rfl (hb hby seqn_d54) k) ?_
  show OwnGo p e below (s₁.setTop (mkF m 55 #[.val (.ref a1), .val .null, .unset] [(.int (0 : Int32))])) _
  refine own_retN X0 hx Bd.notSynchronized (t := .boolean) (z := (0 : Int32)) Bd.returns (by simp) rfl (hb hby seqn_d55) e0 (Nat.le_of_ble_eq_true rfl) (Nat.le_of_ble_eq_true rfl) ?_
  exact ⟨rfl, N0, rfl⟩
theorem si4_d0 : decode jdk_42_method_149_code 0 = .ok (.aload_n 0, 1) := by decide +kernel
theorem si4_d1 : decode jdk_42_method_149_code 1 = .ok (.invokespecial 1, 3) := by decide +kernel
theorem si4_d4 : decode jdk_42_method_149_code 4 = .ok (.iload_n 3, 1) := by decide +kernel
theorem si4_d5 : decode jdk_42_method_149_code 5 = .ok (.ifCond .ne 22, 3) := by decide +kernel
theorem si4_d8 : decode jdk_42_method_149_code 8 = .ok (.aload_n 0, 1) := by decide +kernel
theorem si4_d9 : decode jdk_42_method_149_code 9 = .ok (.ldc 7, 2) := by decide +kernel
theorem si4_d11 : decode jdk_42_method_149_code 11 = .ok (.getfield 9, 3) := by decide +kernel
theorem si4_d14 : decode jdk_42_method_149_code 14 = .ok (.putfield 9, 3) := by decide +kernel
theorem si4_d17 : decode jdk_42_method_149_code 17 = .ok (.aload_n 0, 1) := by decide +kernel
theorem si4_d18 : decode jdk_42_method_149_code 18 = .ok (.ldc 7, 2) := by decide +kernel
theorem si4_d20 : decode jdk_42_method_149_code 20 = .ok (.getfield 15, 3) := by decide +kernel
theorem si4_d23 : decode jdk_42_method_149_code 23 = .ok (.putfield 15, 3) := by decide +kernel
theorem si4_d26 : decode jdk_42_method_149_code 26 = .ok (.return_, 1) := by decide +kernel
theorem si4_pn : plainName "java/lang/String" = true := by first | (simp [plainName, overriddenIn]; done) | decide +kernel
theorem si4_ef (m : MethodId) (x0 : Addr) (x1 : Addr) (x2 : Int32) (x3 : Int32) : entryFrame m #[(.ref x0), (.ref x1), (.int x3), (.int x3), .null] 6 = mkF m 0 #[.val (.ref x0), .val (.ref x1), .val (.int x3), .val (.int x3), .val .null, .unset] [] := by first | (simp [entryFrame, mkF, argsToLocals, Value.category]; done) | rfl
set_option maxRecDepth 65536 in
set_option maxHeartbeats 40000000 in
theorem rm_si4 (l : Launch) (Z : State) (a0 : Array Value) (hw : ∀ d ∈ tables_1, d.before a0 Z = true) (ws : List Jvm.Cond) (a1 : Addr) (b1 : Addr) (uc : Value) (uv : Value) (h0 : Heap) (n0 : Nat) (Z0 : n0 ≤ h0.size) (OL : Old Z n0 h0) (E1 : Exa Z h0 a1 "java/lang/String") (F1 : Fld Z h0 a1 "java/lang/String" "coder" "B" uc) (F2 : Fld Z h0 a1 "java/lang/String" "value" "[B" uv) (g1 : n0 ≤ a1) :
    MetFree l (⟨"java/lang/String", "<init>", "([CIILjava/lang/Void;)V"⟩ : MethodName) (head1 (Jvm.Cond.code (⟨"java/lang/String", "<init>", "([CIILjava/lang/Void;)V"⟩ : MethodName) jdk_42_method_149_code 6 none :: ws) ({ frames := 1, cells := 4, slots := 8, locals := 12 } : Room)) (fun a U => a = #[(.ref a1), (.ref b1), (.int (0 : Int32)), (.int (0 : Int32)), .null] ∧ Z.Warmed39 U.vm ∧ U.heap = h0 ∧ CHv Z own_EL U.vm h0 ∧ ∀ x ∈ ([a1] : List Addr), Safe Z own_EL U.vm h0 x) (fun _ _ _ _ _ => True) (fun _ U o U' => OwnEndW Z own_EL U (fun v h L => v = none ∧ Fr n0 L ∧ Keep h0 h [a1] ∧ OwnStr Z h a1 []) ({ frames := 1, cells := 4, slots := 8, locals := 12 } : Room).cells ({ frames := 1, cells := 4, slots := 8, locals := 12 } : Room).slots o U') := by
  refine MetFree.of_bodySF (plainFor_of_name si4_pn) hisR ?_
  intro p e s m args below meth c s₁ Bd hml0 hP hK
  obtain ⟨rfl, hZ, hh, hCH, hSL⟩ := hP
  have hx := Bd.exec
  have hby := Bd.bytes
  have hml : c.maxLocals = 6 := hml0
  have hown : s.vm.findClass "java/lang/String" = some m.cls := findClass_of_methodNamed Bd.named
  have hnm := (name_of_methodNamed Bd.named Bd.method).1
  have X0 : Stand p l e ({ frames := 1, cells := 4, slots := 8, locals := 12 } : Room) (s.setVm s.vm) m #[(.ref a1), (.ref b1), (.int (0 : Int32)), (.int (0 : Int32)), .null] below meth c s₁ [] 0 0 := Stand.of_body Bd
  have e0 : s₁.heap = h0 := by rw [← hh, Bd.state]; rfl
  have N0 := Fr.nil n0
  have KP0 := Keep.refl h0 [a1]
  have hown : (s.setVm s.vm).vm.findClass "java/lang/String" = some m.cls := hown
  have hZ : Z.Warmed39 (s.setVm s.vm).vm := hZ
  have hS0 : s.Since s.vm 0 := (State.WarmedH.refl s).since 0
  have hk0 : 0 ≤ h0.size := Nat.zero_le _
  have CR0 : CHr Z own_EL s.vm h0 s.vm h0 := CHr.refl hCH
  have hEL := own_EW hw
  have sf_a1 := hSL a1 (List.mem_of_getElem? (i := 0) rfl)
  refine own_go (Q := (OwnEndW Z own_EL s (fun v h L => v = none ∧ Fr n0 L ∧ Keep h0 h [a1] ∧ OwnStr Z h a1 []) ({ frames := 1, cells := 4, slots := 8, locals := 12 } : Room).cells ({ frames := 1, cells := 4, slots := 8, locals := 12 } : Room).slots)) ?_
  refine own_back (fun t k => castTop (si4_ef m a1 b1 (0 : Int32) (0 : Int32)) k) ?_
  show OwnGo p e below (s₁.setTop (mkF m 0 #[.val (.ref a1), .val (.ref b1), .val (.int (0 : Int32)), .val (.int (0 : Int32)), .val .null, .unset] [])) _
  refine own_back (fun t k => XS.aloadN X0.here hx rfl (hb hby si4_d0) rfl rfl k) ?_
  show OwnGo p e below (s₁.setTop (mkF m 1 #[.val (.ref a1), .val (.ref b1), .val (.int (0 : Int32)), .val (.int (0 : Int32)), .val .null, .unset] [(.ref a1)])) _
  obtain ⟨T122, X122, e122, st122⟩ := initO X0 hx hZ hown (hw _ (List.mem_of_getElem? (i := 15) rfl)) (hw _ (List.mem_of_getElem? (i := 16) rfl)) (hw _ (List.mem_of_getElem? (i := 17) rfl)) e0 (g := (mkF m 1 #[.val (.ref a1), .val (.ref b1), .val (.int (0 : Int32)), .val (.int (0 : Int32)), .val .null, .unset] [(.ref a1)])) rfl (by rw [hml]; rfl) rfl (hb hby si4_d1) (by decide) (W := 0) (by show 2 * 0 + _ ≤ _; exact Nat.le_of_eq rfl) (by decide)
  refine own_back st122 ?_
  show OwnGo p e below (T122.setTop (mkF m 4 #[.val (.ref a1), .val (.ref b1), .val (.int (0 : Int32)), .val (.int (0 : Int32)), .val .null, .unset] [])) _
  refine own_back (fun t k => XS.iloadN X122.here hx rfl (hb hby si4_d4) rfl k) ?_
  show OwnGo p e below (T122.setTop (mkF m 5 #[.val (.ref a1), .val (.ref b1), .val (.int (0 : Int32)), .val (.int (0 : Int32)), .val .null, .unset] [(.int (0 : Int32))])) _
  refine own_back (fun t k => XS.ifNo X122.here hx rfl (hb hby si4_d5) rfl (Jvm.Free.XT.i0_ne_f (by decide)) k) ?_
  show OwnGo p e below (T122.setTop (mkF m 8 #[.val (.ref a1), .val (.ref b1), .val (.int (0 : Int32)), .val (.int (0 : Int32)), .val .null, .unset] [])) _
  refine own_back (fun t k => XS.aloadN X122.here hx rfl (hb hby si4_d8) rfl rfl k) ?_
  show OwnGo p e below (T122.setTop (mkF m 9 #[.val (.ref a1), .val (.ref b1), .val (.int (0 : Int32)), .val (.int (0 : Int32)), .val .null, .unset] [(.ref a1)])) _
  obtain ⟨a123, T123, h123, k1123, t123, kb123, X123, e123, E123, hS123, hk123, hZ123, hown123, EX123, FC123, FV123, AV123, la123, lb123, CRl123, hLit123, sx123, st123⟩ := ldcCH X122 hx hZ hown (hw _ (List.mem_of_getElem? (i := 44) rfl)) (own_wS hw) e122 hS0 hk0 hEL (List.mem_of_getElem? (i := 0) rfl) CR0.1 (vs := []) (z := 0) ⟨by decide, by decide⟩ (by decide) (by decide) (g := (mkF m 9 #[.val (.ref a1), .val (.ref b1), .val (.int (0 : Int32)), .val (.int (0 : Int32)), .val .null, .unset] [(.ref a1)])) rfl (hb hby si4_d9) (n := 0) (Nat.le_of_ble_eq_true rfl) (by decide) (Nat.le_of_ble_eq_true rfl) (Nat.le_of_ble_eq_true rfl)
  have O124 := OL.ext E123
  have KP125 := KP0.ext E123
  have Zs126 := Nat.le_trans Z0 E123.1
  have CR127 := CR0.trans CRl123
  have f128 := (CRl123.safe E1.lt sf_a1)
  have f129 := E1.ext E123
  have f130 := F1.ext E123
  have f131 := F2.ext E123
  refine own_back st123 ?_
  show OwnGo p e below (T123.setTop (mkF m 11 #[.val (.ref a1), .val (.ref b1), .val (.int (0 : Int32)), .val (.int (0 : Int32)), .val .null, .unset] [(.ref a123), (.ref a1)])) _
  obtain ⟨T132, X132, e132, st132⟩ := getF X123 hx hZ123 hown123 (host := "") (Or.inl (hw _ (List.mem_of_getElem? (i := 32) rfl))) Via.refl e123 FV123 (g := (mkF m 11 #[.val (.ref a1), .val (.ref b1), .val (.int (0 : Int32)), .val (.int (0 : Int32)), .val .null, .unset] [(.ref a123), (.ref a1)])) rfl rfl (hb hby si4_d11)
  refine own_back st132 ?_
  show OwnGo p e below (T132.setTop (mkF m 14 #[.val (.ref a1), .val (.ref b1), .val (.int (0 : Int32)), .val (.int (0 : Int32)), .val .null, .unset] [(.ref t123), (.ref a1)])) _
  obtain ⟨T133, h133, X133, e133, W133, st133⟩ := putF X132 hx hZ123 hown123 (host := "") (Or.inl (hw _ (List.mem_of_getElem? (i := 32) rfl))) Via.refl e132 f131 f129 (Or.inr ⟨(hw _ (List.mem_of_getElem? (i := 33) rfl)), rfl, hnm⟩) (hw _ (List.mem_of_getElem? (i := 5) rfl)) (ty := (.array .byte)) (by decide) rfl rfl (g := (mkF m 14 #[.val (.ref a1), .val (.ref b1), .val (.int (0 : Int32)), .val (.int (0 : Int32)), .val .null, .unset] [(.ref t123), (.ref a1)])) rfl rfl (hb hby si4_d14)
  have O134 := O124.wr W133 g1
  have KP135 := KP125.wr W133 (Or.inl (List.mem_of_getElem? (i := 0) rfl))
  have Zs136 := Nat.le_trans Zs126 (Keep.of_wr W133).1
  have CR137 := CR127.trans (CHr.wr W133 f128 CR127.1)
  have hk138 := Nat.le_trans hk123 (Keep.of_wr W133).1
  have f139 := (Safe.wr W133 f128 CR127.1 f128)
  have f140 := f129.wr W133
  have f141 := f130.other W133 (Or.inr (slot_ne (Or.inr (hw _ (List.mem_of_getElem? (i := 31) rfl))) (Or.inr (hw _ (List.mem_of_getElem? (i := 33) rfl))) (by decide) (t := .byte) (t' := (.array .byte)) (by decide) (by decide)))
  have f142 := EX123.wr W133
  have f143 := FC123.other W133 (Or.inl (Ne.symm (sx123 a1 f128).1))
  have f144 := FV123.other W133 (Or.inl (Ne.symm (sx123 a1 f128).1))
  have f145 := AV123.other W133 (Ne.symm (sx123 a1 f128).2)
  have F146 := f131.same W133
  have N147 := Fr.snoc X133 N0 g1
  refine own_back st133 ?_
  show OwnGo p e below (T133.setTop (mkF m 17 #[.val (.ref a1), .val (.ref b1), .val (.int (0 : Int32)), .val (.int (0 : Int32)), .val .null, .unset] [])) _
  refine own_back (fun t k => XS.aloadN X133.here hx rfl (hb hby si4_d17) rfl rfl k) ?_
  show OwnGo p e below (T133.setTop (mkF m 18 #[.val (.ref a1), .val (.ref b1), .val (.int (0 : Int32)), .val (.int (0 : Int32)), .val .null, .unset] [(.ref a1)])) _
  obtain ⟨a148, T148, h148, k1148, t148, kb148, X148, e148, E148, hS148, hk148, hZ148, hown148, EX148, FC148, FV148, AV148, la148, lb148, CRl148, hLit148, sx148, st148⟩ := ldcCH X133 hx hZ123 hown123 (hw _ (List.mem_of_getElem? (i := 44) rfl)) (own_wS hw) e133 hS123 hk138 hEL (List.mem_of_getElem? (i := 0) rfl) CR137.1 (vs := []) (z := 0) ⟨by decide, by decide⟩ (by decide) (by decide) (g := (mkF m 18 #[.val (.ref a1), .val (.ref b1), .val (.int (0 : Int32)), .val (.int (0 : Int32)), .val .null, .unset] [(.ref a1)])) rfl (hb hby si4_d18) (n := 0) (Nat.le_of_ble_eq_true rfl) (by decide) (Nat.le_of_ble_eq_true rfl) (Nat.le_of_ble_eq_true rfl)
  have O149 := O134.ext E148
  have KP150 := KP135.ext E148
  have Zs151 := Nat.le_trans Zs136 E148.1
  have CR152 := CR137.trans CRl148
  have f153 := (CRl148.safe f140.lt f139)
  have f154 := f140.ext E148
  have f155 := f141.ext E148
  have f156 := f142.ext E148
  have f157 := f143.ext E148
  have f158 := f144.ext E148
  have f159 := f145.ext E148
  have f160 := F146.ext E148
  refine own_back st148 ?_
  show OwnGo p e below (T148.setTop (mkF m 20 #[.val (.ref a1), .val (.ref b1), .val (.int (0 : Int32)), .val (.int (0 : Int32)), .val .null, .unset] [(.ref a148), (.ref a1)])) _
  obtain ⟨T161, X161, e161, st161⟩ := getF X148 hx hZ148 hown148 (host := "") (Or.inl (hw _ (List.mem_of_getElem? (i := 30) rfl))) Via.refl e148 FC148 (g := (mkF m 20 #[.val (.ref a1), .val (.ref b1), .val (.int (0 : Int32)), .val (.int (0 : Int32)), .val .null, .unset] [(.ref a148), (.ref a1)])) rfl rfl (hb hby si4_d20)
  refine own_back st161 ?_
  show OwnGo p e below (T161.setTop (mkF m 23 #[.val (.ref a1), .val (.ref b1), .val (.int (0 : Int32)), .val (.int (0 : Int32)), .val .null, .unset] [(.int (0 : Int32)), (.ref a1)])) _
  obtain ⟨T162, h162, X162, e162, W162, st162⟩ := putF X161 hx hZ148 hown148 (host := "") (Or.inl (hw _ (List.mem_of_getElem? (i := 30) rfl))) Via.refl e161 f155 f154 (Or.inr ⟨(hw _ (List.mem_of_getElem? (i := 31) rfl)), rfl, hnm⟩) (hw _ (List.mem_of_getElem? (i := 5) rfl)) (ty := .byte) (by decide) rfl rfl (g := (mkF m 23 #[.val (.ref a1), .val (.ref b1), .val (.int (0 : Int32)), .val (.int (0 : Int32)), .val .null, .unset] [(.int (0 : Int32)), (.ref a1)])) rfl rfl (hb hby si4_d23)
  have O163 := O149.wr W162 g1
  have KP164 := KP150.wr W162 (Or.inl (List.mem_of_getElem? (i := 0) rfl))
  have Zs165 := Nat.le_trans Zs151 (Keep.of_wr W162).1
  have CR166 := CR152.trans (CHr.wr W162 f153 CR152.1)
  have hk167 := Nat.le_trans hk148 (Keep.of_wr W162).1
  have f168 := (Safe.wr W162 f153 CR152.1 f153)
  have f169 := f154.wr W162
  have f170 := f156.wr W162
  have f171 := f157.other W162 (Or.inl (Ne.symm (sx123 a1 f128).1))
  have f172 := f158.other W162 (Or.inl (Ne.symm (sx123 a1 f128).1))
  have f173 := f159.other W162 (Ne.symm (sx123 a1 f128).2)
  have f174 := f160.other W162 (Or.inr (slot_ne (Or.inr (hw _ (List.mem_of_getElem? (i := 33) rfl))) (Or.inr (hw _ (List.mem_of_getElem? (i := 31) rfl))) (by decide) (t := (.array .byte)) (t' := .byte) (by decide) (by decide)))
  have f175 := EX148.wr W162
  have f176 := FC148.other W162 (Or.inl (Ne.symm (sx148 a1 f153).1))
  have f177 := FV148.other W162 (Or.inl (Ne.symm (sx148 a1 f153).1))
  have f178 := AV148.other W162 (Ne.symm (sx148 a1 f153).2)
  have F179 := f155.same W162
  have N180 := Fr.snoc X162 N147 g1
  refine own_back st162 ?_
  show OwnGo p e below (T162.setTop (mkF m 26 #[.val (.ref a1), .val (.ref b1), .val (.int (0 : Int32)), .val (.int (0 : Int32)), .val .null, .unset] [])) _
  refine own_retVW X162 hx Bd.notSynchronized Bd.returns hS148 hk167 hZ148 hEL (hh ▸ CR166) (hb hby si4_d26) e162 (Nat.le_of_ble_eq_true rfl) (Nat.le_of_ble_eq_true rfl) ?_
  exact ⟨rfl, N180, KP164, t123, _, f169, F179, f174, f173, Nat.le_of_ble_eq_true rfl⟩
theorem si1_d0 : decode jdk_42_method_3_code 0 = .ok (.aload_n 0, 1) := by decide +kernel
theorem si1_d1 : decode jdk_42_method_3_code 1 = .ok (.aload_n 1, 1) := by decide +kernel
theorem si1_d2 : decode jdk_42_method_3_code 2 = .ok (.iconst 0, 1) := by decide +kernel
theorem si1_d3 : decode jdk_42_method_3_code 3 = .ok (.aload_n 1, 1) := by decide +kernel
theorem si1_d4 : decode jdk_42_method_3_code 4 = .ok (.arraylength, 1) := by decide +kernel
theorem si1_d5 : decode jdk_42_method_3_code 5 = .ok (.aconst_null, 1) := by decide +kernel
theorem si1_d6 : decode jdk_42_method_3_code 6 = .ok (.invokespecial 27, 3) := by decide +kernel
theorem si1_d9 : decode jdk_42_method_3_code 9 = .ok (.return_, 1) := by decide +kernel
theorem si1_pn : plainName "java/lang/String" = true := by first | (simp [plainName, overriddenIn]; done) | decide +kernel
theorem si1_pd0 : parseMethodDescriptor "([CIILjava/lang/Void;)V" = some ⟨[(.array .char), .int, .int, (.object "java/lang/Void")], none⟩ := by decide +kernel
theorem si1_ef (m : MethodId) (x0 : Addr) (x1 : Addr) : entryFrame m #[(.ref x0), (.ref x1)] 2 = mkF m 0 #[.val (.ref x0), .val (.ref x1)] [] := by first | (simp [entryFrame, mkF, argsToLocals, Value.category]; done) | rfl
set_option maxRecDepth 65536 in
set_option maxHeartbeats 40000000 in
theorem rm_si1 (l : Launch) (Z : State) (a0 : Array Value) (hw : ∀ d ∈ tables_1, d.before a0 Z = true) (ws : List Jvm.Cond) (a1 : Addr) (b1 : Addr) (uc : Value) (uv : Value) (kc : ClassId) (h0 : Heap) (n0 : Nat) (Z0 : n0 ≤ h0.size) (OL : Old Z n0 h0) (E1 : Exa Z h0 a1 "java/lang/String") (F1 : Fld Z h0 a1 "java/lang/String" "coder" "B" uc) (F2 : Fld Z h0 a1 "java/lang/String" "value" "[B" uv) (g1 : n0 ≤ a1) (V1 : Arv Z h0 b1 kc .char (0 : Int32) [] (.int 0)) :
    MetFree l (⟨"java/lang/String", "<init>", "([C)V"⟩ : MethodName) (head1 (Jvm.Cond.code (⟨"java/lang/String", "<init>", "([C)V"⟩ : MethodName) jdk_42_method_3_code 2 none :: ws) ({ frames := 2, cells := 4, slots := 8, locals := 30 } : Room)) (fun a U => a = #[(.ref a1), (.ref b1)] ∧ Z.Warmed39 U.vm ∧ U.heap = h0 ∧ CHv Z own_EL U.vm h0 ∧ ∀ x ∈ ([a1] : List Addr), Safe Z own_EL U.vm h0 x) (fun _ _ _ _ _ => True) (fun _ U o U' => OwnEndW Z own_EL U (fun v h L => v = none ∧ Fr n0 L ∧ Keep h0 h [a1] ∧ OwnStr Z h a1 []) ({ frames := 2, cells := 4, slots := 8, locals := 30 } : Room).cells ({ frames := 2, cells := 4, slots := 8, locals := 30 } : Room).slots o U') := by
  refine MetFree.of_bodySF (plainFor_of_name si1_pn) hisR ?_
  intro p e s m args below meth c s₁ Bd hml0 hP hK
  obtain ⟨rfl, hZ, hh, hCH, hSL⟩ := hP
  have hx := Bd.exec
  have hby := Bd.bytes
  have hml : c.maxLocals = 2 := hml0
  have hown : s.vm.findClass "java/lang/String" = some m.cls := findClass_of_methodNamed Bd.named
  have hnm := (name_of_methodNamed Bd.named Bd.method).1
  have X0 : Stand p l e ({ frames := 2, cells := 4, slots := 8, locals := 30 } : Room) (s.setVm s.vm) m #[(.ref a1), (.ref b1)] below meth c s₁ [] 0 0 := Stand.of_body Bd
  have e0 : s₁.heap = h0 := by rw [← hh, Bd.state]; rfl
  have N0 := Fr.nil n0
  have KP0 := Keep.refl h0 [a1]
  have hown : (s.setVm s.vm).vm.findClass "java/lang/String" = some m.cls := hown
  have hZ : Z.Warmed39 (s.setVm s.vm).vm := hZ
  have hS0 : s.Since s.vm 0 := (State.WarmedH.refl s).since 0
  have hk0 : 0 ≤ h0.size := Nat.zero_le _
  have CR0 : CHr Z own_EL s.vm h0 s.vm h0 := CHr.refl hCH
  have hEL := own_EW hw
  have sf_a1 := hSL a1 (List.mem_of_getElem? (i := 0) rfl)
  refine own_go (Q := (OwnEndW Z own_EL s (fun v h L => v = none ∧ Fr n0 L ∧ Keep h0 h [a1] ∧ OwnStr Z h a1 []) ({ frames := 2, cells := 4, slots := 8, locals := 30 } : Room).cells ({ frames := 2, cells := 4, slots := 8, locals := 30 } : Room).slots)) ?_
  refine own_back (fun t k => castTop (si1_ef m a1 b1) k) ?_
  show OwnGo p e below (s₁.setTop (mkF m 0 #[.val (.ref a1), .val (.ref b1)] [])) _
  refine own_back (fun t k => XS.aloadN X0.here hx rfl (hb hby si1_d0) rfl rfl k) ?_
  show OwnGo p e below (s₁.setTop (mkF m 1 #[.val (.ref a1), .val (.ref b1)] [(.ref a1)])) _
  refine own_back (fun t k => XS.aloadN X0.here hx rfl (hb hby si1_d1) rfl rfl k) ?_
  show OwnGo p e below (s₁.setTop (mkF m 2 #[.val (.ref a1), .val (.ref b1)] [(.ref b1), (.ref a1)])) _
  refine own_back (fun t k => XS.iconst X0.here hx rfl (hb hby si1_d2) k) ?_
  show OwnGo p e below (s₁.setTop (mkF m 3 #[.val (.ref a1), .val (.ref b1)] [(.int (0 : Int32)), (.ref b1), (.ref a1)])) _
  refine own_back (fun t k => XS.aloadN X0.here hx rfl (hb hby si1_d3) rfl rfl k) ?_
  show OwnGo p e below (s₁.setTop (mkF m 4 #[.val (.ref a1), .val (.ref b1)] [(.ref b1), (.int (0 : Int32)), (.ref b1), (.ref a1)])) _
  obtain ⟨c181, A181, q181, S181, M181, H181, U181⟩ := id V1
  refine own_back (fun t k => X0.arraylength hx (own_hat e0 A181.1) (State.isArrayOf_alike hZ.alike A181.2.1) (g := (mkF m 4 #[.val (.ref a1), .val (.ref b1)] [(.ref b1), (.int (0 : Int32)), (.ref b1), (.ref a1)])) rfl rfl (hb hby si1_d4) t k) ?_
  rw [len_of S181 M181]
  show OwnGo p e below (s₁.setTop (mkF m 5 #[.val (.ref a1), .val (.ref b1)] [(.int (0 : Int32)), (.int (0 : Int32)), (.ref b1), (.ref a1)])) _
  refine own_back (fun t k => XS.aconstNull X0.here hx rfl (hb hby si1_d5) k) ?_
  show OwnGo p e below (s₁.setTop (mkF m 6 #[.val (.ref a1), .val (.ref b1)] [.null, (.int (0 : Int32)), (.int (0 : Int32)), (.ref b1), (.ref a1)])) _
  obtain ⟨_, _, ⟨T182, L182, k182, n182⟩, -, X182, hSn182, hgr182, ⟨Lc182, hQ182, l182, y182, z182, CRn182⟩, st182⟩ := X0.specialBackS hx (y := (⟨"java/lang/String", "<init>", "([CIILjava/lang/Void;)V"⟩ : MethodName)) rfl hown (mvT hZ (hw _ (List.mem_of_getElem? (i := 11) rfl))) (mvT hZ (hw _ (List.mem_of_getElem? (i := 12) rfl))) (mvT hZ (hw _ (List.mem_of_getElem? (i := 14) rfl))) (by decide) (own_backH (W := 0) (rm_si4 l Z a0 hw [] a1 b1 uc uv h0 n0 Z0 OL E1 F1 F2 g1) hZ (hw _ (List.mem_of_getElem? (i := 14) rfl)) (hw _ (List.mem_of_getElem? (i := 6) rfl)) (by decide) (by decide) hEL CR0.1 (sfS sf_a1 sf0) (allS E1.lt all0)) (g := (mkF m 6 #[.val (.ref a1), .val (.ref b1)] [.null, (.int (0 : Int32)), (.int (0 : Int32)), (.ref b1), (.ref a1)])) rfl (by rw [hml]; rfl) (Steps.refl _) (a := a1) (argsL := [(.ref b1), (.int (0 : Int32)), (.int (0 : Int32)), .null]) (rest := []) (lenOf si1_pd0 rfl) rfl (by show 2 * 0 + _ ≤ _; exact Nat.le_of_eq rfl) (hb hby si1_d6) (fun _ _ => ⟨rfl, e0, Nat.le_of_ble_eq_true rfl, Nat.le_of_ble_eq_true rfl⟩)
  dsimp only [Pt.U, Pt.locs, Pt.cells, Pt.slots] at X182 l182 y182 z182 st182 hQ182 hSn182 hgr182 CRn182
  subst l182 y182 z182
  obtain ⟨Xr182, hSr182, hZr182, hownr182⟩ := rebS hS0 (own_hle e0 hk0) X182 hSn182 hgr182 hZ hown
  obtain ⟨rfl, N182q, K182, B182⟩ := hQ182
  refine own_seq st182 ?_
  have N182 := Fr.app N0 N182q
  show OwnGo p e below (T182.setTop (mkF m 9 #[.val (.ref a1), .val (.ref b1)] [])) _
  refine own_retVW Xr182 hx Bd.notSynchronized Bd.returns hSr182 (Nat.le_refl _) hZr182 hEL (hh ▸ (CR0.trans CRn182)) (hb hby si1_d9) rfl (Nat.le_of_ble_eq_true rfl) (Nat.le_of_ble_eq_true rfl) ?_
  exact ⟨rfl, N182, K182, B182⟩
def own_mk (x1 : Int32) : List Int32 := if (x1 &&& 3) = 0 then [] else if (x1 &&& 3) = 1 then [own_b (((x1.toUInt32 >>> ((2 : Int32) &&& 31).toUInt32).toInt32) &&& (255 : Int32)).toUInt32.toUInt16.toUInt32.toInt32] else if (x1 &&& 3) = 2 then [own_b (((x1.toUInt32 >>> ((2 : Int32) &&& 31).toUInt32).toInt32) &&& (255 : Int32)).toUInt32.toUInt16.toUInt32.toInt32, own_b (((x1.toUInt32 >>> ((10 : Int32) &&& 31).toUInt32).toInt32) &&& (255 : Int32)).toUInt32.toUInt16.toUInt32.toInt32] else [own_b (((x1.toUInt32 >>> ((2 : Int32) &&& 31).toUInt32).toInt32) &&& (255 : Int32)).toUInt32.toUInt16.toUInt32.toInt32, own_b (((x1.toUInt32 >>> ((10 : Int32) &&& 31).toUInt32).toInt32) &&& (255 : Int32)).toUInt32.toUInt16.toUInt32.toInt32, own_b (((x1.toUInt32 >>> ((18 : Int32) &&& 31).toUInt32).toInt32) &&& (255 : Int32)).toUInt32.toUInt16.toUInt32.toInt32]
theorem mk_d0 : decode method_2_code 0 = .ok (.iload_n 0, 1) := by decide +kernel
theorem mk_d1 : decode method_2_code 1 = .ok (.iconst 3, 1) := by decide +kernel
theorem mk_d2 : decode method_2_code 2 = .ok (.iand, 1) := by decide +kernel
theorem mk_d3 : decode method_2_code 3 = .ok (.istore_n 1, 1) := by decide +kernel
theorem mk_d4 : decode method_2_code 4 = .ok (.iload_n 0, 1) := by decide +kernel
theorem mk_d5 : decode method_2_code 5 = .ok (.iconst 2, 1) := by decide +kernel
theorem mk_d6 : decode method_2_code 6 = .ok (.iushr, 1) := by decide +kernel
theorem mk_d7 : decode method_2_code 7 = .ok (.sipush 255, 3) := by decide +kernel
theorem mk_d10 : decode method_2_code 10 = .ok (.iand, 1) := by decide +kernel
theorem mk_d11 : decode method_2_code 11 = .ok (.i2c, 1) := by decide +kernel
theorem mk_d12 : decode method_2_code 12 = .ok (.istore_n 2, 1) := by decide +kernel
theorem mk_d13 : decode method_2_code 13 = .ok (.iload_n 0, 1) := by decide +kernel
theorem mk_d14 : decode method_2_code 14 = .ok (.bipush 10, 2) := by decide +kernel
theorem mk_d16 : decode method_2_code 16 = .ok (.iushr, 1) := by decide +kernel
theorem mk_d17 : decode method_2_code 17 = .ok (.sipush 255, 3) := by decide +kernel
theorem mk_d20 : decode method_2_code 20 = .ok (.iand, 1) := by decide +kernel
theorem mk_d21 : decode method_2_code 21 = .ok (.i2c, 1) := by decide +kernel
theorem mk_d22 : decode method_2_code 22 = .ok (.istore_n 3, 1) := by decide +kernel
theorem mk_d23 : decode method_2_code 23 = .ok (.iload_n 0, 1) := by decide +kernel
theorem mk_d24 : decode method_2_code 24 = .ok (.bipush 18, 2) := by decide +kernel
theorem mk_d26 : decode method_2_code 26 = .ok (.iushr, 1) := by decide +kernel
theorem mk_d27 : decode method_2_code 27 = .ok (.sipush 255, 3) := by decide +kernel
theorem mk_d30 : decode method_2_code 30 = .ok (.iand, 1) := by decide +kernel
theorem mk_d31 : decode method_2_code 31 = .ok (.i2c, 1) := by decide +kernel
theorem mk_d32 : decode method_2_code 32 = .ok (.istore 4, 2) := by decide +kernel
theorem mk_d34 : decode method_2_code 34 = .ok (.iload_n 1, 1) := by decide +kernel
theorem mk_d35 : decode method_2_code 35 = .ok (.ifCond .ne 14, 3) := by decide +kernel
theorem mk_d38 : decode method_2_code 38 = .ok (.new 7, 3) := by decide +kernel
theorem mk_d41 : decode method_2_code 41 = .ok (.dup, 1) := by decide +kernel
theorem mk_d42 : decode method_2_code 42 = .ok (.iconst 0, 1) := by decide +kernel
theorem mk_d43 : decode method_2_code 43 = .ok (.newarray .char, 2) := by decide +kernel
theorem mk_d45 : decode method_2_code 45 = .ok (.invokespecial 9, 3) := by decide +kernel
theorem mk_d48 : decode method_2_code 48 = .ok (.areturn, 1) := by decide +kernel
theorem mk_d49 : decode method_2_code 49 = .ok (.iload_n 1, 1) := by decide +kernel
theorem mk_d50 : decode method_2_code 50 = .ok (.iconst 1, 1) := by decide +kernel
theorem mk_d51 : decode method_2_code 51 = .ok (.if_icmp .ne 18, 3) := by decide +kernel
theorem mk_d54 : decode method_2_code 54 = .ok (.new 7, 3) := by decide +kernel
theorem mk_d57 : decode method_2_code 57 = .ok (.dup, 1) := by decide +kernel
theorem mk_d58 : decode method_2_code 58 = .ok (.iconst 1, 1) := by decide +kernel
theorem mk_d59 : decode method_2_code 59 = .ok (.newarray .char, 2) := by decide +kernel
theorem mk_d61 : decode method_2_code 61 = .ok (.dup, 1) := by decide +kernel
theorem mk_d62 : decode method_2_code 62 = .ok (.iconst 0, 1) := by decide +kernel
theorem mk_d63 : decode method_2_code 63 = .ok (.iload_n 2, 1) := by decide +kernel
theorem mk_d64 : decode method_2_code 64 = .ok (.castore, 1) := by decide +kernel
theorem mk_d65 : decode method_2_code 65 = .ok (.invokespecial 9, 3) := by decide +kernel
theorem mk_d68 : decode method_2_code 68 = .ok (.areturn, 1) := by decide +kernel
theorem mk_d69 : decode method_2_code 69 = .ok (.iload_n 1, 1) := by decide +kernel
theorem mk_d70 : decode method_2_code 70 = .ok (.iconst 2, 1) := by decide +kernel
theorem mk_d71 : decode method_2_code 71 = .ok (.if_icmp .ne 22, 3) := by decide +kernel
theorem mk_d74 : decode method_2_code 74 = .ok (.new 7, 3) := by decide +kernel
theorem mk_d77 : decode method_2_code 77 = .ok (.dup, 1) := by decide +kernel
theorem mk_d78 : decode method_2_code 78 = .ok (.iconst 2, 1) := by decide +kernel
theorem mk_d79 : decode method_2_code 79 = .ok (.newarray .char, 2) := by decide +kernel
theorem mk_d81 : decode method_2_code 81 = .ok (.dup, 1) := by decide +kernel
theorem mk_d82 : decode method_2_code 82 = .ok (.iconst 0, 1) := by decide +kernel
theorem mk_d83 : decode method_2_code 83 = .ok (.iload_n 2, 1) := by decide +kernel
theorem mk_d84 : decode method_2_code 84 = .ok (.castore, 1) := by decide +kernel
theorem mk_d85 : decode method_2_code 85 = .ok (.dup, 1) := by decide +kernel
theorem mk_d86 : decode method_2_code 86 = .ok (.iconst 1, 1) := by decide +kernel
theorem mk_d87 : decode method_2_code 87 = .ok (.iload_n 3, 1) := by decide +kernel
theorem mk_d88 : decode method_2_code 88 = .ok (.castore, 1) := by decide +kernel
theorem mk_d89 : decode method_2_code 89 = .ok (.invokespecial 9, 3) := by decide +kernel
theorem mk_d92 : decode method_2_code 92 = .ok (.areturn, 1) := by decide +kernel
theorem mk_d93 : decode method_2_code 93 = .ok (.new 7, 3) := by decide +kernel
theorem mk_d96 : decode method_2_code 96 = .ok (.dup, 1) := by decide +kernel
theorem mk_d97 : decode method_2_code 97 = .ok (.iconst 3, 1) := by decide +kernel
theorem mk_d98 : decode method_2_code 98 = .ok (.newarray .char, 2) := by decide +kernel
theorem mk_d100 : decode method_2_code 100 = .ok (.dup, 1) := by decide +kernel
theorem mk_d101 : decode method_2_code 101 = .ok (.iconst 0, 1) := by decide +kernel
theorem mk_d102 : decode method_2_code 102 = .ok (.iload_n 2, 1) := by decide +kernel
theorem mk_d103 : decode method_2_code 103 = .ok (.castore, 1) := by decide +kernel
theorem mk_d104 : decode method_2_code 104 = .ok (.dup, 1) := by decide +kernel
theorem mk_d105 : decode method_2_code 105 = .ok (.iconst 1, 1) := by decide +kernel
theorem mk_d106 : decode method_2_code 106 = .ok (.iload_n 3, 1) := by decide +kernel
theorem mk_d107 : decode method_2_code 107 = .ok (.castore, 1) := by decide +kernel
theorem mk_d108 : decode method_2_code 108 = .ok (.dup, 1) := by decide +kernel
theorem mk_d109 : decode method_2_code 109 = .ok (.iconst 2, 1) := by decide +kernel
theorem mk_d110 : decode method_2_code 110 = .ok (.iload 4, 2) := by decide +kernel
theorem mk_d112 : decode method_2_code 112 = .ok (.castore, 1) := by decide +kernel
theorem mk_d113 : decode method_2_code 113 = .ok (.invokespecial 9, 3) := by decide +kernel
theorem mk_d116 : decode method_2_code 116 = .ok (.areturn, 1) := by decide +kernel
theorem mk_pn : plainName "com/example/lease/lease/cli/OptionValuesOneOfPinLaw" = true := by first | (simp [plainName, overriddenIn]; done) | decide +kernel
theorem mk_pd0 : parseMethodDescriptor "([C)V" = some ⟨[(.array .char)], none⟩ := by decide +kernel
theorem mk_ef (m : MethodId) (x0 : Int32) : entryFrame m #[(.int x0)] 5 = mkF m 0 #[.val (.int x0), .unset, .unset, .unset, .unset] [] := by first | (simp [entryFrame, mkF, argsToLocals, Value.category]; done) | rfl
set_option maxRecDepth 65536 in
set_option maxHeartbeats 40000000 in
theorem rm_mk (l : Launch) (Z : State) (a0 : Array Value) (hw : ∀ d ∈ tables_1, d.before a0 Z = true) (ws : List Jvm.Cond) (x1 : Int32) (cz : Int32) (h0 : Heap) (n0 : Nat) (Z0 : n0 ≤ h0.size) (OL : Old Z n0 h0) (SC : Sta Z Z.heap "java/lang/String" "COMPACT_STRINGS" "Z" (.int cz)) (hcz : ¬ cz = 0) :
    MetFree l (⟨"com/example/lease/lease/cli/OptionValuesOneOfPinLaw", "mk", "(I)Ljava/lang/String;"⟩ : MethodName) (head1 (Jvm.Cond.code (⟨"com/example/lease/lease/cli/OptionValuesOneOfPinLaw", "mk", "(I)Ljava/lang/String;"⟩ : MethodName) method_2_code 5 (some (.object "java/lang/String")) :: ws) ({ frames := 4, cells := 6, slots := 12, locals := 66 } : Room)) (fun a U => a = #[(.int x1)] ∧ Z.Warmed39 U.vm ∧ U.heap = h0 ∧ CHv Z own_EL U.vm h0 ∧ ∀ x ∈ ([] : List Addr), Safe Z own_EL U.vm h0 x) (fun _ _ _ _ _ => True) (fun _ U o U' => OwnEndW Z own_EL U (fun v h L => ∃ a, v = some (.ref a) ∧ Fr n0 L ∧ Ext h0 h ∧ OwnStr Z h a (own_mk x1)) ({ frames := 4, cells := 6, slots := 12, locals := 66 } : Room).cells ({ frames := 4, cells := 6, slots := 12, locals := 66 } : Room).slots o U') := by
  refine MetFree.of_bodySF (plainFor_of_name mk_pn) hisR ?_
  intro p e s m args below meth c s₁ Bd hml0 hP hK
  obtain ⟨rfl, hZ, hh, hCH, hSL⟩ := hP
  have hx := Bd.exec
  have hby := Bd.bytes
  have hml : c.maxLocals = 5 := hml0
  have hown : s.vm.findClass "com/example/lease/lease/cli/OptionValuesOneOfPinLaw" = some m.cls := findClass_of_methodNamed Bd.named
  have hnm := (name_of_methodNamed Bd.named Bd.method).1
  have X0 : Stand p l e ({ frames := 4, cells := 6, slots := 12, locals := 66 } : Room) (s.setVm s.vm) m #[(.int x1)] below meth c s₁ [] 0 0 := Stand.of_body Bd
  have e0 : s₁.heap = h0 := by rw [← hh, Bd.state]; rfl
  have N0 := Fr.nil n0
  have KP0 := Keep.refl h0 []
  have hown : (s.setVm s.vm).vm.findClass "com/example/lease/lease/cli/OptionValuesOneOfPinLaw" = some m.cls := hown
  have hZ : Z.Warmed39 (s.setVm s.vm).vm := hZ
  have hS0 : s.Since s.vm 0 := (State.WarmedH.refl s).since 0
  have hk0 : 0 ≤ h0.size := Nat.zero_le _
  have CR0 : CHr Z own_EL s.vm h0 s.vm h0 := CHr.refl hCH
  have hEL := own_EW hw
  refine own_go (Q := (OwnEndW Z own_EL s (fun v h L => ∃ a, v = some (.ref a) ∧ Fr n0 L ∧ Ext h0 h ∧ OwnStr Z h a (own_mk x1)) ({ frames := 4, cells := 6, slots := 12, locals := 66 } : Room).cells ({ frames := 4, cells := 6, slots := 12, locals := 66 } : Room).slots)) ?_
  refine own_back (fun t k => castTop (mk_ef m x1) k) ?_
  show OwnGo p e below (s₁.setTop (mkF m 0 #[.val (.int x1), .unset, .unset, .unset, .unset] [])) _
  refine own_back (fun t k => XS.iloadN X0.here hx rfl (hb hby mk_d0) rfl k) ?_
  show OwnGo p e below (s₁.setTop (mkF m 1 #[.val (.int x1), .unset, .unset, .unset, .unset] [(.int x1)])) _
  refine own_back (fun t k => XS.iconst X0.here hx rfl (hb hby mk_d1) k) ?_
  show OwnGo p e below (s₁.setTop (mkF m 2 #[.val (.int x1), .unset, .unset, .unset, .unset] [(.int (3 : Int32)), (.int x1)])) _
  refine own_back (fun t k => XS.iand X0.here hx rfl (hb hby mk_d2) rfl k) ?_
  show OwnGo p e below (s₁.setTop (mkF m 3 #[.val (.int x1), .unset, .unset, .unset, .unset] [(.int (x1 &&& (3 : Int32)))])) _
  refine own_back (fun t k => XS.istoreN X0.here hx rfl (hb hby mk_d3) rfl (l' := #[.val (.int x1), .val (.int (x1 &&& (3 : Int32))), .unset, .unset, .unset]) rfl k) ?_
  show OwnGo p e below (s₁.setTop (mkF m 4 #[.val (.int x1), .val (.int (x1 &&& (3 : Int32))), .unset, .unset, .unset] [])) _
  refine own_back (fun t k => XS.iloadN X0.here hx rfl (hb hby mk_d4) rfl k) ?_
  show OwnGo p e below (s₁.setTop (mkF m 5 #[.val (.int x1), .val (.int (x1 &&& (3 : Int32))), .unset, .unset, .unset] [(.int x1)])) _
  refine own_back (fun t k => XS.iconst X0.here hx rfl (hb hby mk_d5) k) ?_
  show OwnGo p e below (s₁.setTop (mkF m 6 #[.val (.int x1), .val (.int (x1 &&& (3 : Int32))), .unset, .unset, .unset] [(.int (2 : Int32)), (.int x1)])) _
  refine own_back (fun t k => XS.iushr X0.here hx rfl (hb hby mk_d6) rfl k) ?_
  show OwnGo p e below (s₁.setTop (mkF m 7 #[.val (.int x1), .val (.int (x1 &&& (3 : Int32))), .unset, .unset, .unset] [(.int ((x1.toUInt32 >>> ((2 : Int32) &&& 31).toUInt32).toInt32))])) _
  refine own_back (fun t k => XS.sipush X0.here hx rfl (hb hby mk_d7) k) ?_
  show OwnGo p e below (s₁.setTop (mkF m 10 #[.val (.int x1), .val (.int (x1 &&& (3 : Int32))), .unset, .unset, .unset] [(.int (255 : Int32)), (.int ((x1.toUInt32 >>> ((2 : Int32) &&& 31).toUInt32).toInt32))])) _
  refine own_back (fun t k => XS.iand X0.here hx rfl (hb hby mk_d10) rfl k) ?_
  show OwnGo p e below (s₁.setTop (mkF m 11 #[.val (.int x1), .val (.int (x1 &&& (3 : Int32))), .unset, .unset, .unset] [(.int (((x1.toUInt32 >>> ((2 : Int32) &&& 31).toUInt32).toInt32) &&& (255 : Int32)))])) _
  refine own_back (fun t k => XS.i2c X0.here hx rfl (hb hby mk_d11) rfl k) ?_
  show OwnGo p e below (s₁.setTop (mkF m 12 #[.val (.int x1), .val (.int (x1 &&& (3 : Int32))), .unset, .unset, .unset] [(.int (((x1.toUInt32 >>> ((2 : Int32) &&& 31).toUInt32).toInt32) &&& (255 : Int32)).toUInt32.toUInt16.toUInt32.toInt32)])) _
  refine own_back (fun t k => XS.istoreN X0.here hx rfl (hb hby mk_d12) rfl (l' := #[.val (.int x1), .val (.int (x1 &&& (3 : Int32))), .val (.int (((x1.toUInt32 >>> ((2 : Int32) &&& 31).toUInt32).toInt32) &&& (255 : Int32)).toUInt32.toUInt16.toUInt32.toInt32), .unset, .unset]) rfl k) ?_
  show OwnGo p e below (s₁.setTop (mkF m 13 #[.val (.int x1), .val (.int (x1 &&& (3 : Int32))), .val (.int (((x1.toUInt32 >>> ((2 : Int32) &&& 31).toUInt32).toInt32) &&& (255 : Int32)).toUInt32.toUInt16.toUInt32.toInt32), .unset, .unset] [])) _
  refine own_back (fun t k => XS.iloadN X0.here hx rfl (hb hby mk_d13) rfl k) ?_
  show OwnGo p e below (s₁.setTop (mkF m 14 #[.val (.int x1), .val (.int (x1 &&& (3 : Int32))), .val (.int (((x1.toUInt32 >>> ((2 : Int32) &&& 31).toUInt32).toInt32) &&& (255 : Int32)).toUInt32.toUInt16.toUInt32.toInt32), .unset, .unset] [(.int x1)])) _
  refine own_back (fun t k => XS.bipush X0.here hx rfl (hb hby mk_d14) k) ?_
  show OwnGo p e below (s₁.setTop (mkF m 16 #[.val (.int x1), .val (.int (x1 &&& (3 : Int32))), .val (.int (((x1.toUInt32 >>> ((2 : Int32) &&& 31).toUInt32).toInt32) &&& (255 : Int32)).toUInt32.toUInt16.toUInt32.toInt32), .unset, .unset] [(.int (10 : Int32)), (.int x1)])) _
  refine own_back (fun t k => XS.iushr X0.here hx rfl (hb hby mk_d16) rfl k) ?_
  show OwnGo p e below (s₁.setTop (mkF m 17 #[.val (.int x1), .val (.int (x1 &&& (3 : Int32))), .val (.int (((x1.toUInt32 >>> ((2 : Int32) &&& 31).toUInt32).toInt32) &&& (255 : Int32)).toUInt32.toUInt16.toUInt32.toInt32), .unset, .unset] [(.int ((x1.toUInt32 >>> ((10 : Int32) &&& 31).toUInt32).toInt32))])) _
  refine own_back (fun t k => XS.sipush X0.here hx rfl (hb hby mk_d17) k) ?_
  show OwnGo p e below (s₁.setTop (mkF m 20 #[.val (.int x1), .val (.int (x1 &&& (3 : Int32))), .val (.int (((x1.toUInt32 >>> ((2 : Int32) &&& 31).toUInt32).toInt32) &&& (255 : Int32)).toUInt32.toUInt16.toUInt32.toInt32), .unset, .unset] [(.int (255 : Int32)), (.int ((x1.toUInt32 >>> ((10 : Int32) &&& 31).toUInt32).toInt32))])) _
  refine own_back (fun t k => XS.iand X0.here hx rfl (hb hby mk_d20) rfl k) ?_
  show OwnGo p e below (s₁.setTop (mkF m 21 #[.val (.int x1), .val (.int (x1 &&& (3 : Int32))), .val (.int (((x1.toUInt32 >>> ((2 : Int32) &&& 31).toUInt32).toInt32) &&& (255 : Int32)).toUInt32.toUInt16.toUInt32.toInt32), .unset, .unset] [(.int (((x1.toUInt32 >>> ((10 : Int32) &&& 31).toUInt32).toInt32) &&& (255 : Int32)))])) _
  refine own_back (fun t k => XS.i2c X0.here hx rfl (hb hby mk_d21) rfl k) ?_
  show OwnGo p e below (s₁.setTop (mkF m 22 #[.val (.int x1), .val (.int (x1 &&& (3 : Int32))), .val (.int (((x1.toUInt32 >>> ((2 : Int32) &&& 31).toUInt32).toInt32) &&& (255 : Int32)).toUInt32.toUInt16.toUInt32.toInt32), .unset, .unset] [(.int (((x1.toUInt32 >>> ((10 : Int32) &&& 31).toUInt32).toInt32) &&& (255 : Int32)).toUInt32.toUInt16.toUInt32.toInt32)])) _
  refine own_back (fun t k => XS.istoreN X0.here hx rfl (hb hby mk_d22) rfl (l' := #[.val (.int x1), .val (.int (x1 &&& (3 : Int32))), .val (.int (((x1.toUInt32 >>> ((2 : Int32) &&& 31).toUInt32).toInt32) &&& (255 : Int32)).toUInt32.toUInt16.toUInt32.toInt32), .val (.int (((x1.toUInt32 >>> ((10 : Int32) &&& 31).toUInt32).toInt32) &&& (255 : Int32)).toUInt32.toUInt16.toUInt32.toInt32), .unset]) rfl k) ?_
  show OwnGo p e below (s₁.setTop (mkF m 23 #[.val (.int x1), .val (.int (x1 &&& (3 : Int32))), .val (.int (((x1.toUInt32 >>> ((2 : Int32) &&& 31).toUInt32).toInt32) &&& (255 : Int32)).toUInt32.toUInt16.toUInt32.toInt32), .val (.int (((x1.toUInt32 >>> ((10 : Int32) &&& 31).toUInt32).toInt32) &&& (255 : Int32)).toUInt32.toUInt16.toUInt32.toInt32), .unset] [])) _
  refine own_back (fun t k => XS.iloadN X0.here hx rfl (hb hby mk_d23) rfl k) ?_
  show OwnGo p e below (s₁.setTop (mkF m 24 #[.val (.int x1), .val (.int (x1 &&& (3 : Int32))), .val (.int (((x1.toUInt32 >>> ((2 : Int32) &&& 31).toUInt32).toInt32) &&& (255 : Int32)).toUInt32.toUInt16.toUInt32.toInt32), .val (.int (((x1.toUInt32 >>> ((10 : Int32) &&& 31).toUInt32).toInt32) &&& (255 : Int32)).toUInt32.toUInt16.toUInt32.toInt32), .unset] [(.int x1)])) _
  refine own_back (fun t k => XS.bipush X0.here hx rfl (hb hby mk_d24) k) ?_
  show OwnGo p e below (s₁.setTop (mkF m 26 #[.val (.int x1), .val (.int (x1 &&& (3 : Int32))), .val (.int (((x1.toUInt32 >>> ((2 : Int32) &&& 31).toUInt32).toInt32) &&& (255 : Int32)).toUInt32.toUInt16.toUInt32.toInt32), .val (.int (((x1.toUInt32 >>> ((10 : Int32) &&& 31).toUInt32).toInt32) &&& (255 : Int32)).toUInt32.toUInt16.toUInt32.toInt32), .unset] [(.int (18 : Int32)), (.int x1)])) _
  refine own_back (fun t k => XS.iushr X0.here hx rfl (hb hby mk_d26) rfl k) ?_
  show OwnGo p e below (s₁.setTop (mkF m 27 #[.val (.int x1), .val (.int (x1 &&& (3 : Int32))), .val (.int (((x1.toUInt32 >>> ((2 : Int32) &&& 31).toUInt32).toInt32) &&& (255 : Int32)).toUInt32.toUInt16.toUInt32.toInt32), .val (.int (((x1.toUInt32 >>> ((10 : Int32) &&& 31).toUInt32).toInt32) &&& (255 : Int32)).toUInt32.toUInt16.toUInt32.toInt32), .unset] [(.int ((x1.toUInt32 >>> ((18 : Int32) &&& 31).toUInt32).toInt32))])) _
  refine own_back (fun t k => XS.sipush X0.here hx rfl (hb hby mk_d27) k) ?_
  show OwnGo p e below (s₁.setTop (mkF m 30 #[.val (.int x1), .val (.int (x1 &&& (3 : Int32))), .val (.int (((x1.toUInt32 >>> ((2 : Int32) &&& 31).toUInt32).toInt32) &&& (255 : Int32)).toUInt32.toUInt16.toUInt32.toInt32), .val (.int (((x1.toUInt32 >>> ((10 : Int32) &&& 31).toUInt32).toInt32) &&& (255 : Int32)).toUInt32.toUInt16.toUInt32.toInt32), .unset] [(.int (255 : Int32)), (.int ((x1.toUInt32 >>> ((18 : Int32) &&& 31).toUInt32).toInt32))])) _
  refine own_back (fun t k => XS.iand X0.here hx rfl (hb hby mk_d30) rfl k) ?_
  show OwnGo p e below (s₁.setTop (mkF m 31 #[.val (.int x1), .val (.int (x1 &&& (3 : Int32))), .val (.int (((x1.toUInt32 >>> ((2 : Int32) &&& 31).toUInt32).toInt32) &&& (255 : Int32)).toUInt32.toUInt16.toUInt32.toInt32), .val (.int (((x1.toUInt32 >>> ((10 : Int32) &&& 31).toUInt32).toInt32) &&& (255 : Int32)).toUInt32.toUInt16.toUInt32.toInt32), .unset] [(.int (((x1.toUInt32 >>> ((18 : Int32) &&& 31).toUInt32).toInt32) &&& (255 : Int32)))])) _
  refine own_back (fun t k => XS.i2c X0.here hx rfl (hb hby mk_d31) rfl k) ?_
  show OwnGo p e below (s₁.setTop (mkF m 32 #[.val (.int x1), .val (.int (x1 &&& (3 : Int32))), .val (.int (((x1.toUInt32 >>> ((2 : Int32) &&& 31).toUInt32).toInt32) &&& (255 : Int32)).toUInt32.toUInt16.toUInt32.toInt32), .val (.int (((x1.toUInt32 >>> ((10 : Int32) &&& 31).toUInt32).toInt32) &&& (255 : Int32)).toUInt32.toUInt16.toUInt32.toInt32), .unset] [(.int (((x1.toUInt32 >>> ((18 : Int32) &&& 31).toUInt32).toInt32) &&& (255 : Int32)).toUInt32.toUInt16.toUInt32.toInt32)])) _
  refine own_back (fun t k => XS.istore X0.here hx rfl (hb hby mk_d32) rfl (l' := #[.val (.int x1), .val (.int (x1 &&& (3 : Int32))), .val (.int (((x1.toUInt32 >>> ((2 : Int32) &&& 31).toUInt32).toInt32) &&& (255 : Int32)).toUInt32.toUInt16.toUInt32.toInt32), .val (.int (((x1.toUInt32 >>> ((10 : Int32) &&& 31).toUInt32).toInt32) &&& (255 : Int32)).toUInt32.toUInt16.toUInt32.toInt32), .val (.int (((x1.toUInt32 >>> ((18 : Int32) &&& 31).toUInt32).toInt32) &&& (255 : Int32)).toUInt32.toUInt16.toUInt32.toInt32)]) rfl k) ?_
  show OwnGo p e below (s₁.setTop (mkF m 34 #[.val (.int x1), .val (.int (x1 &&& (3 : Int32))), .val (.int (((x1.toUInt32 >>> ((2 : Int32) &&& 31).toUInt32).toInt32) &&& (255 : Int32)).toUInt32.toUInt16.toUInt32.toInt32), .val (.int (((x1.toUInt32 >>> ((10 : Int32) &&& 31).toUInt32).toInt32) &&& (255 : Int32)).toUInt32.toUInt16.toUInt32.toInt32), .val (.int (((x1.toUInt32 >>> ((18 : Int32) &&& 31).toUInt32).toInt32) &&& (255 : Int32)).toUInt32.toUInt16.toUInt32.toInt32)] [])) _
  refine own_back (fun t k => XS.iloadN X0.here hx rfl (hb hby mk_d34) rfl k) ?_
  show OwnGo p e below (s₁.setTop (mkF m 35 #[.val (.int x1), .val (.int (x1 &&& (3 : Int32))), .val (.int (((x1.toUInt32 >>> ((2 : Int32) &&& 31).toUInt32).toInt32) &&& (255 : Int32)).toUInt32.toUInt16.toUInt32.toInt32), .val (.int (((x1.toUInt32 >>> ((10 : Int32) &&& 31).toUInt32).toInt32) &&& (255 : Int32)).toUInt32.toUInt16.toUInt32.toInt32), .val (.int (((x1.toUInt32 >>> ((18 : Int32) &&& 31).toUInt32).toInt32) &&& (255 : Int32)).toUInt32.toUInt16.toUInt32.toInt32)] [(.int (x1 &&& (3 : Int32)))])) _
  by_cases hc35_183 : (x1 &&& (3 : Int32)) = (0 : Int32)
  · refine own_back (fun t k => XS.ifNo X0.here hx rfl (hb hby mk_d35) rfl (Jvm.Free.XT.i0_ne_f hc35_183) k) ?_
    show OwnGo p e below (s₁.setTop (mkF m 38 #[.val (.int x1), .val (.int (x1 &&& (3 : Int32))), .val (.int (((x1.toUInt32 >>> ((2 : Int32) &&& 31).toUInt32).toInt32) &&& (255 : Int32)).toUInt32.toUInt16.toUInt32.toInt32), .val (.int (((x1.toUInt32 >>> ((10 : Int32) &&& 31).toUInt32).toInt32) &&& (255 : Int32)).toUInt32.toUInt16.toUInt32.toInt32), .val (.int (((x1.toUInt32 >>> ((18 : Int32) &&& 31).toUInt32).toInt32) &&& (255 : Int32)).toUInt32.toUInt16.toUInt32.toInt32)] [])) _
    obtain ⟨T184, h184, X184, e184, E184, A184, D184, -, st184⟩ := newO X0 hx hZ hown (hw _ (List.mem_of_getElem? (i := 4) rfl)) (hw _ (List.mem_of_getElem? (i := 5) rfl)) (hw _ (List.mem_of_getElem? (i := 6) rfl)) e0 (g := (mkF m 38 #[.val (.int x1), .val (.int (x1 &&& (3 : Int32))), .val (.int (((x1.toUInt32 >>> ((2 : Int32) &&& 31).toUInt32).toInt32) &&& (255 : Int32)).toUInt32.toUInt16.toUInt32.toInt32), .val (.int (((x1.toUInt32 >>> ((10 : Int32) &&& 31).toUInt32).toInt32) &&& (255 : Int32)).toUInt32.toUInt16.toUInt32.toInt32), .val (.int (((x1.toUInt32 >>> ((18 : Int32) &&& 31).toUInt32).toInt32) &&& (255 : Int32)).toUInt32.toUInt16.toUInt32.toInt32)] [])) rfl (hb hby mk_d38) (Nat.le_of_ble_eq_true rfl) (Nat.le_of_ble_eq_true rfl)
    obtain ⟨b184, g184⟩ : ∃ z, z = h0.size := ⟨_, rfl⟩
    have ge185 : n0 ≤ b184 := Nat.le_trans Z0 (Nat.le_of_eq g184.symm)
    have sz186 : h0.size ≤ b184 := Nat.le_trans KP0.1 (Nat.le_of_eq g184.symm)
    rw [← g184] at A184 D184 st184
    have O187 := OL.ext E184
    have KP188 := KP0.ext E184
    have Zs189 := Nat.le_trans Z0 E184.1
    have CR190 := CR0.trans (CHr.ext E184 CR0.1)
    have hk191 := Nat.le_trans hk0 E184.1
    have F192 : Fld Z h184 b184 "java/lang/String" "coder" "B" (.int (0 : Int32)) := D184 (Or.inr (hw _ (List.mem_of_getElem? (i := 31) rfl))) (ty := .byte) (by decide)
    have F193 : Fld Z h184 b184 "java/lang/String" "value" "[B" .null := D184 (Or.inr (hw _ (List.mem_of_getElem? (i := 33) rfl))) (ty := (.array .byte)) (by decide)
    have sf194 := Safe.ext E184 CR0.1 (Safe.new (Nat.le_of_eq g184.symm))
    refine own_back st184 ?_
    show OwnGo p e below (T184.setTop (mkF m 41 #[.val (.int x1), .val (.int (x1 &&& (3 : Int32))), .val (.int (((x1.toUInt32 >>> ((2 : Int32) &&& 31).toUInt32).toInt32) &&& (255 : Int32)).toUInt32.toUInt16.toUInt32.toInt32), .val (.int (((x1.toUInt32 >>> ((10 : Int32) &&& 31).toUInt32).toInt32) &&& (255 : Int32)).toUInt32.toUInt16.toUInt32.toInt32), .val (.int (((x1.toUInt32 >>> ((18 : Int32) &&& 31).toUInt32).toInt32) &&& (255 : Int32)).toUInt32.toUInt16.toUInt32.toInt32)] [(.ref b184)])) _
    refine own_back (fun t k => XS.dup X184.here hx rfl (hb hby mk_d41) rfl rfl k) ?_
    show OwnGo p e below (T184.setTop (mkF m 42 #[.val (.int x1), .val (.int (x1 &&& (3 : Int32))), .val (.int (((x1.toUInt32 >>> ((2 : Int32) &&& 31).toUInt32).toInt32) &&& (255 : Int32)).toUInt32.toUInt16.toUInt32.toInt32), .val (.int (((x1.toUInt32 >>> ((10 : Int32) &&& 31).toUInt32).toInt32) &&& (255 : Int32)).toUInt32.toUInt16.toUInt32.toInt32), .val (.int (((x1.toUInt32 >>> ((18 : Int32) &&& 31).toUInt32).toInt32) &&& (255 : Int32)).toUInt32.toUInt16.toUInt32.toInt32)] [(.ref b184), (.ref b184)])) _
    refine own_back (fun t k => XS.iconst X184.here hx rfl (hb hby mk_d42) k) ?_
    show OwnGo p e below (T184.setTop (mkF m 43 #[.val (.int x1), .val (.int (x1 &&& (3 : Int32))), .val (.int (((x1.toUInt32 >>> ((2 : Int32) &&& 31).toUInt32).toInt32) &&& (255 : Int32)).toUInt32.toUInt16.toUInt32.toInt32), .val (.int (((x1.toUInt32 >>> ((10 : Int32) &&& 31).toUInt32).toInt32) &&& (255 : Int32)).toUInt32.toUInt16.toUInt32.toInt32), .val (.int (((x1.toUInt32 >>> ((18 : Int32) &&& 31).toUInt32).toInt32) &&& (255 : Int32)).toUInt32.toUInt16.toUInt32.toInt32)] [(.int (0 : Int32)), (.ref b184), (.ref b184)])) _
    obtain ⟨T195, h195, k195, X195, e195, E195, A195, st195⟩ := newP X184 hx hZ (hw _ (List.mem_of_getElem? (i := 7) rfl)) e184 (g := (mkF m 43 #[.val (.int x1), .val (.int (x1 &&& (3 : Int32))), .val (.int (((x1.toUInt32 >>> ((2 : Int32) &&& 31).toUInt32).toInt32) &&& (255 : Int32)).toUInt32.toUInt16.toUInt32.toInt32), .val (.int (((x1.toUInt32 >>> ((10 : Int32) &&& 31).toUInt32).toInt32) &&& (255 : Int32)).toUInt32.toUInt16.toUInt32.toInt32), .val (.int (((x1.toUInt32 >>> ((18 : Int32) &&& 31).toUInt32).toInt32) &&& (255 : Int32)).toUInt32.toUInt16.toUInt32.toInt32)] [(.int (0 : Int32)), (.ref b184), (.ref b184)])) rfl (hb hby mk_d43) rfl (by decide) (cap := 0) (by decide) (by decide) (Nat.le_of_ble_eq_true rfl) (Nat.le_of_ble_eq_true rfl)
    obtain ⟨b195, g195⟩ : ∃ z, z = h184.size := ⟨_, rfl⟩
    have ge196 : n0 ≤ b195 := Nat.le_trans Zs189 (Nat.le_of_eq g195.symm)
    have sz197 : h0.size ≤ b195 := Nat.le_trans KP188.1 (Nat.le_of_eq g195.symm)
    rw [← g195] at A195 st195
    have O198 := O187.ext E195
    have KP199 := KP188.ext E195
    have Zs200 := Nat.le_trans Zs189 E195.1
    have CR201 := CR190.trans (CHr.ext E195 CR190.1)
    have hk202 := Nat.le_trans hk191 E195.1
    have f203 := A184.ext E195
    have f204 := F192.ext E195
    have f205 := F193.ext E195
    have f206 := (Safe.ext E195 CR190.1 sf194)
    have V207 : Arv Z h195 b195 k195 .char (0 : Int32) [] (.int (0 : Int32)) := (Arv.new A195 (by decide)).pad (pad_rep [] (.int (0 : Int32)) 0)
    have sf208 := Safe.ext E195 CR190.1 (Safe.new (Nat.le_of_eq g195.symm))
    refine own_back st195 ?_
    show OwnGo p e below (T195.setTop (mkF m 45 #[.val (.int x1), .val (.int (x1 &&& (3 : Int32))), .val (.int (((x1.toUInt32 >>> ((2 : Int32) &&& 31).toUInt32).toInt32) &&& (255 : Int32)).toUInt32.toUInt16.toUInt32.toInt32), .val (.int (((x1.toUInt32 >>> ((10 : Int32) &&& 31).toUInt32).toInt32) &&& (255 : Int32)).toUInt32.toUInt16.toUInt32.toInt32), .val (.int (((x1.toUInt32 >>> ((18 : Int32) &&& 31).toUInt32).toInt32) &&& (255 : Int32)).toUInt32.toUInt16.toUInt32.toInt32)] [(.ref b195), (.ref b184), (.ref b184)])) _
    obtain ⟨_, _, ⟨T209, L209, k209, n209⟩, -, X209, hSn209, hgr209, ⟨Lc209, hQ209, l209, y209, z209, CRn209⟩, st209⟩ := X195.specialBackS hx (y := (⟨"java/lang/String", "<init>", "([C)V"⟩ : MethodName)) rfl hown (mvT hZ (hw _ (List.mem_of_getElem? (i := 8) rfl))) (mvT hZ (hw _ (List.mem_of_getElem? (i := 9) rfl))) (mvT hZ (hw _ (List.mem_of_getElem? (i := 10) rfl))) (by decide) (own_backH (W := 1) (rm_si1 l Z a0 hw [] b184 b195 (.int 0) .null k195 h195 n0 Zs200 O198 f203 f204 f205 ge185 V207) hZ (hw _ (List.mem_of_getElem? (i := 10) rfl)) (hw _ (List.mem_of_getElem? (i := 6) rfl)) (by decide) (by decide) hEL CR201.1 (sfS f206 sf0) (allS f203.lt all0)) (g := (mkF m 45 #[.val (.int x1), .val (.int (x1 &&& (3 : Int32))), .val (.int (((x1.toUInt32 >>> ((2 : Int32) &&& 31).toUInt32).toInt32) &&& (255 : Int32)).toUInt32.toUInt16.toUInt32.toInt32), .val (.int (((x1.toUInt32 >>> ((10 : Int32) &&& 31).toUInt32).toInt32) &&& (255 : Int32)).toUInt32.toUInt16.toUInt32.toInt32), .val (.int (((x1.toUInt32 >>> ((18 : Int32) &&& 31).toUInt32).toInt32) &&& (255 : Int32)).toUInt32.toUInt16.toUInt32.toInt32)] [(.ref b195), (.ref b184), (.ref b184)])) rfl (by rw [hml]; rfl) (Steps.refl _) (a := b184) (argsL := [(.ref b195)]) (rest := [(.ref b184)]) (lenOf mk_pd0 rfl) rfl (by show 2 * 0 + _ ≤ _; exact Nat.le_of_eq rfl) (hb hby mk_d45) (fun _ _ => ⟨rfl, e195, Nat.le_of_ble_eq_true rfl, Nat.le_of_ble_eq_true rfl⟩)
    dsimp only [Pt.U, Pt.locs, Pt.cells, Pt.slots] at X209 l209 y209 z209 st209 hQ209 hSn209 hgr209 CRn209
    subst l209 y209 z209
    obtain ⟨Xr209, hSr209, hZr209, hownr209⟩ := rebS hS0 (own_hle e195 hk202) X209 hSn209 hgr209 hZ hown
    obtain ⟨rfl, N209q, K209, B209⟩ := hQ209
    refine own_seq st209 ?_
    have N209 := Fr.app N0 N209q
    have O210 := O198.keep K209 (allS ge185 all0)
    have KP211 := KP199.trans K209 (allS (Or.inr sz186) all0)
    have Zs212 := Nat.le_trans Zs200 K209.1
    have CR213 := CR201.trans CRn209
    have f214 := f203.keep K209
    have f215 := (CRn209.safe f203.lt f206)
    have f216 := V207.keep K209 (ninS (Ne.symm (Nat.ne_of_lt (Nat.lt_of_lt_of_le A184.lt (Nat.le_of_eq g195.symm)))) nin0)
    have f217 := (CRn209.safe V207.lt sf208)
    show OwnGo p e below (T209.setTop (mkF m 48 #[.val (.int x1), .val (.int (x1 &&& (3 : Int32))), .val (.int (((x1.toUInt32 >>> ((2 : Int32) &&& 31).toUInt32).toInt32) &&& (255 : Int32)).toUInt32.toUInt16.toUInt32.toInt32), .val (.int (((x1.toUInt32 >>> ((10 : Int32) &&& 31).toUInt32).toInt32) &&& (255 : Int32)).toUInt32.toUInt16.toUInt32.toInt32), .val (.int (((x1.toUInt32 >>> ((18 : Int32) &&& 31).toUInt32).toInt32) &&& (255 : Int32)).toUInt32.toUInt16.toUInt32.toInt32)] [(.ref b184)])) _
    refine own_retAW Xr209 hx Bd.notSynchronized Bd.returns rfl rfl hSr209 (Nat.le_refl _) hZr209 hEL (hh ▸ CR213) (hb hby mk_d48) rfl (Nat.le_of_ble_eq_true rfl) (Nat.le_of_ble_eq_true rfl) ?_
    exact ⟨b184, rfl, N209, own_ext KP211, by rw [own_mk, if_pos hc35_183]; exact B209⟩
  · refine own_back (fun t k => XS.ifYes X0.here hx rfl (pc0 := 35) (pc' := 49) rfl (hb hby mk_d35) rfl (Jvm.Free.XT.i0_ne_t hc35_183) (by decide) (by decide) k) ?_
    show OwnGo p e below (s₁.setTop (mkF m 49 #[.val (.int x1), .val (.int (x1 &&& (3 : Int32))), .val (.int (((x1.toUInt32 >>> ((2 : Int32) &&& 31).toUInt32).toInt32) &&& (255 : Int32)).toUInt32.toUInt16.toUInt32.toInt32), .val (.int (((x1.toUInt32 >>> ((10 : Int32) &&& 31).toUInt32).toInt32) &&& (255 : Int32)).toUInt32.toUInt16.toUInt32.toInt32), .val (.int (((x1.toUInt32 >>> ((18 : Int32) &&& 31).toUInt32).toInt32) &&& (255 : Int32)).toUInt32.toUInt16.toUInt32.toInt32)] [])) _
    refine own_back (fun t k => XS.iloadN X0.here hx rfl (hb hby mk_d49) rfl k) ?_
    show OwnGo p e below (s₁.setTop (mkF m 50 #[.val (.int x1), .val (.int (x1 &&& (3 : Int32))), .val (.int (((x1.toUInt32 >>> ((2 : Int32) &&& 31).toUInt32).toInt32) &&& (255 : Int32)).toUInt32.toUInt16.toUInt32.toInt32), .val (.int (((x1.toUInt32 >>> ((10 : Int32) &&& 31).toUInt32).toInt32) &&& (255 : Int32)).toUInt32.toUInt16.toUInt32.toInt32), .val (.int (((x1.toUInt32 >>> ((18 : Int32) &&& 31).toUInt32).toInt32) &&& (255 : Int32)).toUInt32.toUInt16.toUInt32.toInt32)] [(.int (x1 &&& (3 : Int32)))])) _
    refine own_back (fun t k => XS.iconst X0.here hx rfl (hb hby mk_d50) k) ?_
    show OwnGo p e below (s₁.setTop (mkF m 51 #[.val (.int x1), .val (.int (x1 &&& (3 : Int32))), .val (.int (((x1.toUInt32 >>> ((2 : Int32) &&& 31).toUInt32).toInt32) &&& (255 : Int32)).toUInt32.toUInt16.toUInt32.toInt32), .val (.int (((x1.toUInt32 >>> ((10 : Int32) &&& 31).toUInt32).toInt32) &&& (255 : Int32)).toUInt32.toUInt16.toUInt32.toInt32), .val (.int (((x1.toUInt32 >>> ((18 : Int32) &&& 31).toUInt32).toInt32) &&& (255 : Int32)).toUInt32.toUInt16.toUInt32.toInt32)] [(.int (1 : Int32)), (.int (x1 &&& (3 : Int32)))])) _
    by_cases hc51_218 : (x1 &&& (3 : Int32)) = (1 : Int32)
    · refine own_back (fun t k => XS.icmpNo X0.here hx rfl (hb hby mk_d51) rfl (Jvm.Free.XT.ii_ne_f hc51_218) k) ?_
      show OwnGo p e below (s₁.setTop (mkF m 54 #[.val (.int x1), .val (.int (x1 &&& (3 : Int32))), .val (.int (((x1.toUInt32 >>> ((2 : Int32) &&& 31).toUInt32).toInt32) &&& (255 : Int32)).toUInt32.toUInt16.toUInt32.toInt32), .val (.int (((x1.toUInt32 >>> ((10 : Int32) &&& 31).toUInt32).toInt32) &&& (255 : Int32)).toUInt32.toUInt16.toUInt32.toInt32), .val (.int (((x1.toUInt32 >>> ((18 : Int32) &&& 31).toUInt32).toInt32) &&& (255 : Int32)).toUInt32.toUInt16.toUInt32.toInt32)] [])) _
      obtain ⟨T219, h219, X219, e219, E219, A219, D219, -, st219⟩ := newO X0 hx hZ hown (hw _ (List.mem_of_getElem? (i := 4) rfl)) (hw _ (List.mem_of_getElem? (i := 5) rfl)) (hw _ (List.mem_of_getElem? (i := 6) rfl)) e0 (g := (mkF m 54 #[.val (.int x1), .val (.int (x1 &&& (3 : Int32))), .val (.int (((x1.toUInt32 >>> ((2 : Int32) &&& 31).toUInt32).toInt32) &&& (255 : Int32)).toUInt32.toUInt16.toUInt32.toInt32), .val (.int (((x1.toUInt32 >>> ((10 : Int32) &&& 31).toUInt32).toInt32) &&& (255 : Int32)).toUInt32.toUInt16.toUInt32.toInt32), .val (.int (((x1.toUInt32 >>> ((18 : Int32) &&& 31).toUInt32).toInt32) &&& (255 : Int32)).toUInt32.toUInt16.toUInt32.toInt32)] [])) rfl (hb hby mk_d54) (Nat.le_of_ble_eq_true rfl) (Nat.le_of_ble_eq_true rfl)
      obtain ⟨b219, g219⟩ : ∃ z, z = h0.size := ⟨_, rfl⟩
      have ge220 : n0 ≤ b219 := Nat.le_trans Z0 (Nat.le_of_eq g219.symm)
      have sz221 : h0.size ≤ b219 := Nat.le_trans KP0.1 (Nat.le_of_eq g219.symm)
      rw [← g219] at A219 D219 st219
      have O222 := OL.ext E219
      have KP223 := KP0.ext E219
      have Zs224 := Nat.le_trans Z0 E219.1
      have CR225 := CR0.trans (CHr.ext E219 CR0.1)
      have hk226 := Nat.le_trans hk0 E219.1
      have F227 : Fld Z h219 b219 "java/lang/String" "coder" "B" (.int (0 : Int32)) := D219 (Or.inr (hw _ (List.mem_of_getElem? (i := 31) rfl))) (ty := .byte) (by decide)
      have F228 : Fld Z h219 b219 "java/lang/String" "value" "[B" .null := D219 (Or.inr (hw _ (List.mem_of_getElem? (i := 33) rfl))) (ty := (.array .byte)) (by decide)
      have sf229 := Safe.ext E219 CR0.1 (Safe.new (Nat.le_of_eq g219.symm))
      refine own_back st219 ?_
      show OwnGo p e below (T219.setTop (mkF m 57 #[.val (.int x1), .val (.int (x1 &&& (3 : Int32))), .val (.int (((x1.toUInt32 >>> ((2 : Int32) &&& 31).toUInt32).toInt32) &&& (255 : Int32)).toUInt32.toUInt16.toUInt32.toInt32), .val (.int (((x1.toUInt32 >>> ((10 : Int32) &&& 31).toUInt32).toInt32) &&& (255 : Int32)).toUInt32.toUInt16.toUInt32.toInt32), .val (.int (((x1.toUInt32 >>> ((18 : Int32) &&& 31).toUInt32).toInt32) &&& (255 : Int32)).toUInt32.toUInt16.toUInt32.toInt32)] [(.ref b219)])) _
      refine own_back (fun t k => XS.dup X219.here hx rfl (hb hby mk_d57) rfl rfl k) ?_
      show OwnGo p e below (T219.setTop (mkF m 58 #[.val (.int x1), .val (.int (x1 &&& (3 : Int32))), .val (.int (((x1.toUInt32 >>> ((2 : Int32) &&& 31).toUInt32).toInt32) &&& (255 : Int32)).toUInt32.toUInt16.toUInt32.toInt32), .val (.int (((x1.toUInt32 >>> ((10 : Int32) &&& 31).toUInt32).toInt32) &&& (255 : Int32)).toUInt32.toUInt16.toUInt32.toInt32), .val (.int (((x1.toUInt32 >>> ((18 : Int32) &&& 31).toUInt32).toInt32) &&& (255 : Int32)).toUInt32.toUInt16.toUInt32.toInt32)] [(.ref b219), (.ref b219)])) _
      refine own_back (fun t k => XS.iconst X219.here hx rfl (hb hby mk_d58) k) ?_
      show OwnGo p e below (T219.setTop (mkF m 59 #[.val (.int x1), .val (.int (x1 &&& (3 : Int32))), .val (.int (((x1.toUInt32 >>> ((2 : Int32) &&& 31).toUInt32).toInt32) &&& (255 : Int32)).toUInt32.toUInt16.toUInt32.toInt32), .val (.int (((x1.toUInt32 >>> ((10 : Int32) &&& 31).toUInt32).toInt32) &&& (255 : Int32)).toUInt32.toUInt16.toUInt32.toInt32), .val (.int (((x1.toUInt32 >>> ((18 : Int32) &&& 31).toUInt32).toInt32) &&& (255 : Int32)).toUInt32.toUInt16.toUInt32.toInt32)] [(.int (1 : Int32)), (.ref b219), (.ref b219)])) _
      obtain ⟨T230, h230, k230, X230, e230, E230, A230, st230⟩ := newP X219 hx hZ (hw _ (List.mem_of_getElem? (i := 7) rfl)) e219 (g := (mkF m 59 #[.val (.int x1), .val (.int (x1 &&& (3 : Int32))), .val (.int (((x1.toUInt32 >>> ((2 : Int32) &&& 31).toUInt32).toInt32) &&& (255 : Int32)).toUInt32.toUInt16.toUInt32.toInt32), .val (.int (((x1.toUInt32 >>> ((10 : Int32) &&& 31).toUInt32).toInt32) &&& (255 : Int32)).toUInt32.toUInt16.toUInt32.toInt32), .val (.int (((x1.toUInt32 >>> ((18 : Int32) &&& 31).toUInt32).toInt32) &&& (255 : Int32)).toUInt32.toUInt16.toUInt32.toInt32)] [(.int (1 : Int32)), (.ref b219), (.ref b219)])) rfl (hb hby mk_d59) rfl (by decide) (cap := 1) (by decide) (by decide) (Nat.le_of_ble_eq_true rfl) (Nat.le_of_ble_eq_true rfl)
      obtain ⟨b230, g230⟩ : ∃ z, z = h219.size := ⟨_, rfl⟩
      have ge231 : n0 ≤ b230 := Nat.le_trans Zs224 (Nat.le_of_eq g230.symm)
      have sz232 : h0.size ≤ b230 := Nat.le_trans KP223.1 (Nat.le_of_eq g230.symm)
      rw [← g230] at A230 st230
      have O233 := O222.ext E230
      have KP234 := KP223.ext E230
      have Zs235 := Nat.le_trans Zs224 E230.1
      have CR236 := CR225.trans (CHr.ext E230 CR225.1)
      have hk237 := Nat.le_trans hk226 E230.1
      have f238 := A219.ext E230
      have f239 := F227.ext E230
      have f240 := F228.ext E230
      have f241 := (Safe.ext E230 CR225.1 sf229)
      have V242 : Arv Z h230 b230 k230 .char (1 : Int32) [(.int (0 : Int32))] (.int (0 : Int32)) := (Arv.new A230 (by decide)).pad (pad_rep [] (.int (0 : Int32)) 1)
      have sf243 := Safe.ext E230 CR225.1 (Safe.new (Nat.le_of_eq g230.symm))
      refine own_back st230 ?_
      show OwnGo p e below (T230.setTop (mkF m 61 #[.val (.int x1), .val (.int (x1 &&& (3 : Int32))), .val (.int (((x1.toUInt32 >>> ((2 : Int32) &&& 31).toUInt32).toInt32) &&& (255 : Int32)).toUInt32.toUInt16.toUInt32.toInt32), .val (.int (((x1.toUInt32 >>> ((10 : Int32) &&& 31).toUInt32).toInt32) &&& (255 : Int32)).toUInt32.toUInt16.toUInt32.toInt32), .val (.int (((x1.toUInt32 >>> ((18 : Int32) &&& 31).toUInt32).toInt32) &&& (255 : Int32)).toUInt32.toUInt16.toUInt32.toInt32)] [(.ref b230), (.ref b219), (.ref b219)])) _
      refine own_back (fun t k => XS.dup X230.here hx rfl (hb hby mk_d61) rfl rfl k) ?_
      show OwnGo p e below (T230.setTop (mkF m 62 #[.val (.int x1), .val (.int (x1 &&& (3 : Int32))), .val (.int (((x1.toUInt32 >>> ((2 : Int32) &&& 31).toUInt32).toInt32) &&& (255 : Int32)).toUInt32.toUInt16.toUInt32.toInt32), .val (.int (((x1.toUInt32 >>> ((10 : Int32) &&& 31).toUInt32).toInt32) &&& (255 : Int32)).toUInt32.toUInt16.toUInt32.toInt32), .val (.int (((x1.toUInt32 >>> ((18 : Int32) &&& 31).toUInt32).toInt32) &&& (255 : Int32)).toUInt32.toUInt16.toUInt32.toInt32)] [(.ref b230), (.ref b230), (.ref b219), (.ref b219)])) _
      refine own_back (fun t k => XS.iconst X230.here hx rfl (hb hby mk_d62) k) ?_
      show OwnGo p e below (T230.setTop (mkF m 63 #[.val (.int x1), .val (.int (x1 &&& (3 : Int32))), .val (.int (((x1.toUInt32 >>> ((2 : Int32) &&& 31).toUInt32).toInt32) &&& (255 : Int32)).toUInt32.toUInt16.toUInt32.toInt32), .val (.int (((x1.toUInt32 >>> ((10 : Int32) &&& 31).toUInt32).toInt32) &&& (255 : Int32)).toUInt32.toUInt16.toUInt32.toInt32), .val (.int (((x1.toUInt32 >>> ((18 : Int32) &&& 31).toUInt32).toInt32) &&& (255 : Int32)).toUInt32.toUInt16.toUInt32.toInt32)] [(.int (0 : Int32)), (.ref b230), (.ref b230), (.ref b219), (.ref b219)])) _
      refine own_back (fun t k => XS.iloadN X230.here hx rfl (hb hby mk_d63) rfl k) ?_
      show OwnGo p e below (T230.setTop (mkF m 64 #[.val (.int x1), .val (.int (x1 &&& (3 : Int32))), .val (.int (((x1.toUInt32 >>> ((2 : Int32) &&& 31).toUInt32).toInt32) &&& (255 : Int32)).toUInt32.toUInt16.toUInt32.toInt32), .val (.int (((x1.toUInt32 >>> ((10 : Int32) &&& 31).toUInt32).toInt32) &&& (255 : Int32)).toUInt32.toUInt16.toUInt32.toInt32), .val (.int (((x1.toUInt32 >>> ((18 : Int32) &&& 31).toUInt32).toInt32) &&& (255 : Int32)).toUInt32.toUInt16.toUInt32.toInt32)] [(.int (((x1.toUInt32 >>> ((2 : Int32) &&& 31).toUInt32).toInt32) &&& (255 : Int32)).toUInt32.toUInt16.toUInt32.toInt32), (.int (0 : Int32)), (.ref b230), (.ref b230), (.ref b219), (.ref b219)])) _
      obtain ⟨c244, A244, q244, S244, M244, H244, U244⟩ := id V242
      obtain ⟨T245, h245, X245, e245, W245, st245⟩ := stC X230 hx hZ e230 A244 (j := (0 : Int32)) (inb_of S244 ⟨by decide, by decide⟩) (g := (mkF m 64 #[.val (.int x1), .val (.int (x1 &&& (3 : Int32))), .val (.int (((x1.toUInt32 >>> ((2 : Int32) &&& 31).toUInt32).toInt32) &&& (255 : Int32)).toUInt32.toUInt16.toUInt32.toInt32), .val (.int (((x1.toUInt32 >>> ((10 : Int32) &&& 31).toUInt32).toInt32) &&& (255 : Int32)).toUInt32.toUInt16.toUInt32.toInt32), .val (.int (((x1.toUInt32 >>> ((18 : Int32) &&& 31).toUInt32).toInt32) &&& (255 : Int32)).toUInt32.toUInt16.toUInt32.toInt32)] [(.int (((x1.toUInt32 >>> ((2 : Int32) &&& 31).toUInt32).toInt32) &&& (255 : Int32)).toUInt32.toUInt16.toUInt32.toInt32), (.int (0 : Int32)), (.ref b230), (.ref b230), (.ref b219), (.ref b219)])) rfl rfl (hb hby mk_d64)
      have O246 := O233.wr W245 ge231
      have KP247 := KP234.wr W245 (Or.inr sz232)
      have Zs248 := Nat.le_trans Zs235 (Keep.of_wr W245).1
      have CR249 := CR236.trans (CHr.wr W245 sf243 CR236.1)
      have hk250 := Nat.le_trans hk237 (Keep.of_wr W245).1
      have f251 := f238.wr W245
      have f252 := f239.other W245 (Or.inl (Nat.ne_of_lt (Nat.lt_of_lt_of_le A219.lt (Nat.le_of_eq g230.symm))))
      have f253 := f240.other W245 (Or.inl (Nat.ne_of_lt (Nat.lt_of_lt_of_le A219.lt (Nat.le_of_eq g230.symm))))
      have f254 := (Safe.wr W245 sf243 CR236.1 f241)
      have f255 := (Safe.wr W245 sf243 CR236.1 sf243)
      have V256 : Arv Z h245 b230 k230 .char (1 : Int32) [(.int (nar .char (((x1.toUInt32 >>> ((2 : Int32) &&& 31).toUInt32).toInt32) &&& (255 : Int32)).toUInt32.toUInt16.toUInt32.toInt32))] (.int (0 : Int32)) := Arv.set A244 q244 S244 M244 H244 U244 (fits_nar_char _) W245 0 rfl (Nat.le_of_ble_eq_true rfl)
      have N257 := Fr.snoc X245 N0 ge231
      refine own_back st245 ?_
      show OwnGo p e below (T245.setTop (mkF m 65 #[.val (.int x1), .val (.int (x1 &&& (3 : Int32))), .val (.int (((x1.toUInt32 >>> ((2 : Int32) &&& 31).toUInt32).toInt32) &&& (255 : Int32)).toUInt32.toUInt16.toUInt32.toInt32), .val (.int (((x1.toUInt32 >>> ((10 : Int32) &&& 31).toUInt32).toInt32) &&& (255 : Int32)).toUInt32.toUInt16.toUInt32.toInt32), .val (.int (((x1.toUInt32 >>> ((18 : Int32) &&& 31).toUInt32).toInt32) &&& (255 : Int32)).toUInt32.toUInt16.toUInt32.toInt32)] [(.ref b230), (.ref b219), (.ref b219)])) _
      obtain ⟨_, _, ⟨T258, L258, k258, n258⟩, -, X258, ⟨Lc258, hQ258, l258, y258, z258⟩, st258⟩ := X245.specialBack hx (y := (⟨"java/lang/String", "<init>", "([C)V"⟩ : MethodName)) rfl hown (mvT hZ (hw _ (List.mem_of_getElem? (i := 8) rfl))) (mvT hZ (hw _ (List.mem_of_getElem? (i := 9) rfl))) (mvT hZ (hw _ (List.mem_of_getElem? (i := 10) rfl))) (by decide) (StrChars.Road.backV (W := 1) hZ (own_wV hw) (kI := 4) (hw _ (List.mem_of_getElem? (i := 5) rfl)) (cs := ([(nar .char (((x1.toUInt32 >>> ((2 : Int32) &&& 31).toUInt32).toInt32) &&& (255 : Int32)).toUInt32.toUInt16.toUInt32.toInt32)] : List Int32)) (bs := ([(nar .char (((x1.toUInt32 >>> ((2 : Int32) &&& 31).toUInt32).toInt32) &&& (255 : Int32)).toUInt32.toUInt16.toUInt32.toInt32)] : List Int32).map (fun c => c.toInt8.toInt32)) (n := 1) ge220 Zs248 f251 f253 f252 V256 (SC.ext O246.2) hcz rfl rfl (by decide) (by decide) (own_allS (own_c255 _) own_all0) rfl (by decide) (by decide)) (g := (mkF m 65 #[.val (.int x1), .val (.int (x1 &&& (3 : Int32))), .val (.int (((x1.toUInt32 >>> ((2 : Int32) &&& 31).toUInt32).toInt32) &&& (255 : Int32)).toUInt32.toUInt16.toUInt32.toInt32), .val (.int (((x1.toUInt32 >>> ((10 : Int32) &&& 31).toUInt32).toInt32) &&& (255 : Int32)).toUInt32.toUInt16.toUInt32.toInt32), .val (.int (((x1.toUInt32 >>> ((18 : Int32) &&& 31).toUInt32).toInt32) &&& (255 : Int32)).toUInt32.toUInt16.toUInt32.toInt32)] [(.ref b230), (.ref b219), (.ref b219)])) rfl (by rw [hml]; rfl) (Steps.refl _) (a := b219) (argsL := [(.ref b230)]) (rest := [(.ref b219)]) (lenOf mk_pd0 rfl) rfl (by show 2 * 0 + _ ≤ _; exact Nat.le_of_eq rfl) (hb hby mk_d65) (fun _ _ => ⟨rfl, e245, Nat.le_of_ble_eq_true rfl, Nat.le_of_ble_eq_true rfl⟩)
      dsimp only [Pt.U, Pt.locs, Pt.cells, Pt.slots] at X258 l258 y258 z258 st258 hQ258
      subst l258 y258 z258
      obtain ⟨rfl, N258q, K258, EX258, C258, t258, kb258, gt258, zt258, nt258, FV258, AV258⟩ := hQ258
      refine own_seq st258 ?_
      have N258 := Fr.app N257 N258q
      have O259 := O246.keep K258 (allS ge220 all0)
      have KP260 := KP247.trans K258 (allS (Or.inr sz221) all0)
      have Zs261 := Nat.le_trans Zs248 K258.1
      have CR262 := CR249.trans (CHr.keep K258 (sfS f254 sf0) CR249.1)
      have hk263 := Nat.le_trans hk250 K258.1
      have f264 := f251.keep K258
      have f265 := (Safe.keep K258 (sfS f254 sf0) CR249.1 f254)
      have f266 := (Safe.keep K258 (sfS f254 sf0) CR249.1 f255)
      have f267 := V256.keep K258 (ninS (Ne.symm (Nat.ne_of_lt (Nat.lt_of_lt_of_le A219.lt (Nat.le_of_eq g230.symm)))) nin0)
      show OwnGo p e below (T258.setTop (mkF m 68 #[.val (.int x1), .val (.int (x1 &&& (3 : Int32))), .val (.int (((x1.toUInt32 >>> ((2 : Int32) &&& 31).toUInt32).toInt32) &&& (255 : Int32)).toUInt32.toUInt16.toUInt32.toInt32), .val (.int (((x1.toUInt32 >>> ((10 : Int32) &&& 31).toUInt32).toInt32) &&& (255 : Int32)).toUInt32.toUInt16.toUInt32.toInt32), .val (.int (((x1.toUInt32 >>> ((18 : Int32) &&& 31).toUInt32).toInt32) &&& (255 : Int32)).toUInt32.toUInt16.toUInt32.toInt32)] [(.ref b219)])) _
      refine own_retAW X258 hx Bd.notSynchronized Bd.returns rfl rfl hS0 hk263 hZ hEL (hh ▸ CR262) (hb hby mk_d68) rfl (Nat.le_of_ble_eq_true rfl) (Nat.le_of_ble_eq_true rfl) ?_
      exact ⟨b219, rfl, N258, own_ext KP260, by rw [own_mk, if_neg hc35_183, if_pos hc51_218]; exact (⟨t258, kb258, EX258, C258, FV258, AV258, Nat.le_of_ble_eq_true rfl⟩ : OwnStr Z T258.heap b219 [((nar .char (((x1.toUInt32 >>> ((2 : Int32) &&& 31).toUInt32).toInt32) &&& (255 : Int32)).toUInt32.toUInt16.toUInt32.toInt32)).toInt8.toInt32])⟩
    · refine own_back (fun t k => XS.icmpYes X0.here hx rfl (pc0 := 51) (pc' := 69) rfl (hb hby mk_d51) rfl (Jvm.Free.XT.ii_ne_t hc51_218) (by decide) (by decide) k) ?_
      show OwnGo p e below (s₁.setTop (mkF m 69 #[.val (.int x1), .val (.int (x1 &&& (3 : Int32))), .val (.int (((x1.toUInt32 >>> ((2 : Int32) &&& 31).toUInt32).toInt32) &&& (255 : Int32)).toUInt32.toUInt16.toUInt32.toInt32), .val (.int (((x1.toUInt32 >>> ((10 : Int32) &&& 31).toUInt32).toInt32) &&& (255 : Int32)).toUInt32.toUInt16.toUInt32.toInt32), .val (.int (((x1.toUInt32 >>> ((18 : Int32) &&& 31).toUInt32).toInt32) &&& (255 : Int32)).toUInt32.toUInt16.toUInt32.toInt32)] [])) _
      refine own_back (fun t k => XS.iloadN X0.here hx rfl (hb hby mk_d69) rfl k) ?_
      show OwnGo p e below (s₁.setTop (mkF m 70 #[.val (.int x1), .val (.int (x1 &&& (3 : Int32))), .val (.int (((x1.toUInt32 >>> ((2 : Int32) &&& 31).toUInt32).toInt32) &&& (255 : Int32)).toUInt32.toUInt16.toUInt32.toInt32), .val (.int (((x1.toUInt32 >>> ((10 : Int32) &&& 31).toUInt32).toInt32) &&& (255 : Int32)).toUInt32.toUInt16.toUInt32.toInt32), .val (.int (((x1.toUInt32 >>> ((18 : Int32) &&& 31).toUInt32).toInt32) &&& (255 : Int32)).toUInt32.toUInt16.toUInt32.toInt32)] [(.int (x1 &&& (3 : Int32)))])) _
      refine own_back (fun t k => XS.iconst X0.here hx rfl (hb hby mk_d70) k) ?_
      show OwnGo p e below (s₁.setTop (mkF m 71 #[.val (.int x1), .val (.int (x1 &&& (3 : Int32))), .val (.int (((x1.toUInt32 >>> ((2 : Int32) &&& 31).toUInt32).toInt32) &&& (255 : Int32)).toUInt32.toUInt16.toUInt32.toInt32), .val (.int (((x1.toUInt32 >>> ((10 : Int32) &&& 31).toUInt32).toInt32) &&& (255 : Int32)).toUInt32.toUInt16.toUInt32.toInt32), .val (.int (((x1.toUInt32 >>> ((18 : Int32) &&& 31).toUInt32).toInt32) &&& (255 : Int32)).toUInt32.toUInt16.toUInt32.toInt32)] [(.int (2 : Int32)), (.int (x1 &&& (3 : Int32)))])) _
      by_cases hc71_268 : (x1 &&& (3 : Int32)) = (2 : Int32)
      · refine own_back (fun t k => XS.icmpNo X0.here hx rfl (hb hby mk_d71) rfl (Jvm.Free.XT.ii_ne_f hc71_268) k) ?_
        show OwnGo p e below (s₁.setTop (mkF m 74 #[.val (.int x1), .val (.int (x1 &&& (3 : Int32))), .val (.int (((x1.toUInt32 >>> ((2 : Int32) &&& 31).toUInt32).toInt32) &&& (255 : Int32)).toUInt32.toUInt16.toUInt32.toInt32), .val (.int (((x1.toUInt32 >>> ((10 : Int32) &&& 31).toUInt32).toInt32) &&& (255 : Int32)).toUInt32.toUInt16.toUInt32.toInt32), .val (.int (((x1.toUInt32 >>> ((18 : Int32) &&& 31).toUInt32).toInt32) &&& (255 : Int32)).toUInt32.toUInt16.toUInt32.toInt32)] [])) _
        obtain ⟨T269, h269, X269, e269, E269, A269, D269, -, st269⟩ := newO X0 hx hZ hown (hw _ (List.mem_of_getElem? (i := 4) rfl)) (hw _ (List.mem_of_getElem? (i := 5) rfl)) (hw _ (List.mem_of_getElem? (i := 6) rfl)) e0 (g := (mkF m 74 #[.val (.int x1), .val (.int (x1 &&& (3 : Int32))), .val (.int (((x1.toUInt32 >>> ((2 : Int32) &&& 31).toUInt32).toInt32) &&& (255 : Int32)).toUInt32.toUInt16.toUInt32.toInt32), .val (.int (((x1.toUInt32 >>> ((10 : Int32) &&& 31).toUInt32).toInt32) &&& (255 : Int32)).toUInt32.toUInt16.toUInt32.toInt32), .val (.int (((x1.toUInt32 >>> ((18 : Int32) &&& 31).toUInt32).toInt32) &&& (255 : Int32)).toUInt32.toUInt16.toUInt32.toInt32)] [])) rfl (hb hby mk_d74) (Nat.le_of_ble_eq_true rfl) (Nat.le_of_ble_eq_true rfl)
        obtain ⟨b269, g269⟩ : ∃ z, z = h0.size := ⟨_, rfl⟩
        have ge270 : n0 ≤ b269 := Nat.le_trans Z0 (Nat.le_of_eq g269.symm)
        have sz271 : h0.size ≤ b269 := Nat.le_trans KP0.1 (Nat.le_of_eq g269.symm)
        rw [← g269] at A269 D269 st269
        have O272 := OL.ext E269
        have KP273 := KP0.ext E269
        have Zs274 := Nat.le_trans Z0 E269.1
        have CR275 := CR0.trans (CHr.ext E269 CR0.1)
        have hk276 := Nat.le_trans hk0 E269.1
        have F277 : Fld Z h269 b269 "java/lang/String" "coder" "B" (.int (0 : Int32)) := D269 (Or.inr (hw _ (List.mem_of_getElem? (i := 31) rfl))) (ty := .byte) (by decide)
        have F278 : Fld Z h269 b269 "java/lang/String" "value" "[B" .null := D269 (Or.inr (hw _ (List.mem_of_getElem? (i := 33) rfl))) (ty := (.array .byte)) (by decide)
        have sf279 := Safe.ext E269 CR0.1 (Safe.new (Nat.le_of_eq g269.symm))
        refine own_back st269 ?_
        show OwnGo p e below (T269.setTop (mkF m 77 #[.val (.int x1), .val (.int (x1 &&& (3 : Int32))), .val (.int (((x1.toUInt32 >>> ((2 : Int32) &&& 31).toUInt32).toInt32) &&& (255 : Int32)).toUInt32.toUInt16.toUInt32.toInt32), .val (.int (((x1.toUInt32 >>> ((10 : Int32) &&& 31).toUInt32).toInt32) &&& (255 : Int32)).toUInt32.toUInt16.toUInt32.toInt32), .val (.int (((x1.toUInt32 >>> ((18 : Int32) &&& 31).toUInt32).toInt32) &&& (255 : Int32)).toUInt32.toUInt16.toUInt32.toInt32)] [(.ref b269)])) _
        refine own_back (fun t k => XS.dup X269.here hx rfl (hb hby mk_d77) rfl rfl k) ?_
        show OwnGo p e below (T269.setTop (mkF m 78 #[.val (.int x1), .val (.int (x1 &&& (3 : Int32))), .val (.int (((x1.toUInt32 >>> ((2 : Int32) &&& 31).toUInt32).toInt32) &&& (255 : Int32)).toUInt32.toUInt16.toUInt32.toInt32), .val (.int (((x1.toUInt32 >>> ((10 : Int32) &&& 31).toUInt32).toInt32) &&& (255 : Int32)).toUInt32.toUInt16.toUInt32.toInt32), .val (.int (((x1.toUInt32 >>> ((18 : Int32) &&& 31).toUInt32).toInt32) &&& (255 : Int32)).toUInt32.toUInt16.toUInt32.toInt32)] [(.ref b269), (.ref b269)])) _
        refine own_back (fun t k => XS.iconst X269.here hx rfl (hb hby mk_d78) k) ?_
        show OwnGo p e below (T269.setTop (mkF m 79 #[.val (.int x1), .val (.int (x1 &&& (3 : Int32))), .val (.int (((x1.toUInt32 >>> ((2 : Int32) &&& 31).toUInt32).toInt32) &&& (255 : Int32)).toUInt32.toUInt16.toUInt32.toInt32), .val (.int (((x1.toUInt32 >>> ((10 : Int32) &&& 31).toUInt32).toInt32) &&& (255 : Int32)).toUInt32.toUInt16.toUInt32.toInt32), .val (.int (((x1.toUInt32 >>> ((18 : Int32) &&& 31).toUInt32).toInt32) &&& (255 : Int32)).toUInt32.toUInt16.toUInt32.toInt32)] [(.int (2 : Int32)), (.ref b269), (.ref b269)])) _
        obtain ⟨T280, h280, k280, X280, e280, E280, A280, st280⟩ := newP X269 hx hZ (hw _ (List.mem_of_getElem? (i := 7) rfl)) e269 (g := (mkF m 79 #[.val (.int x1), .val (.int (x1 &&& (3 : Int32))), .val (.int (((x1.toUInt32 >>> ((2 : Int32) &&& 31).toUInt32).toInt32) &&& (255 : Int32)).toUInt32.toUInt16.toUInt32.toInt32), .val (.int (((x1.toUInt32 >>> ((10 : Int32) &&& 31).toUInt32).toInt32) &&& (255 : Int32)).toUInt32.toUInt16.toUInt32.toInt32), .val (.int (((x1.toUInt32 >>> ((18 : Int32) &&& 31).toUInt32).toInt32) &&& (255 : Int32)).toUInt32.toUInt16.toUInt32.toInt32)] [(.int (2 : Int32)), (.ref b269), (.ref b269)])) rfl (hb hby mk_d79) rfl (by decide) (cap := 2) (by decide) (by decide) (Nat.le_of_ble_eq_true rfl) (Nat.le_of_ble_eq_true rfl)
        obtain ⟨b280, g280⟩ : ∃ z, z = h269.size := ⟨_, rfl⟩
        have ge281 : n0 ≤ b280 := Nat.le_trans Zs274 (Nat.le_of_eq g280.symm)
        have sz282 : h0.size ≤ b280 := Nat.le_trans KP273.1 (Nat.le_of_eq g280.symm)
        rw [← g280] at A280 st280
        have O283 := O272.ext E280
        have KP284 := KP273.ext E280
        have Zs285 := Nat.le_trans Zs274 E280.1
        have CR286 := CR275.trans (CHr.ext E280 CR275.1)
        have hk287 := Nat.le_trans hk276 E280.1
        have f288 := A269.ext E280
        have f289 := F277.ext E280
        have f290 := F278.ext E280
        have f291 := (Safe.ext E280 CR275.1 sf279)
        have V292 : Arv Z h280 b280 k280 .char (2 : Int32) [(.int (0 : Int32)), (.int (0 : Int32))] (.int (0 : Int32)) := (Arv.new A280 (by decide)).pad (pad_rep [] (.int (0 : Int32)) 2)
        have sf293 := Safe.ext E280 CR275.1 (Safe.new (Nat.le_of_eq g280.symm))
        refine own_back st280 ?_
        show OwnGo p e below (T280.setTop (mkF m 81 #[.val (.int x1), .val (.int (x1 &&& (3 : Int32))), .val (.int (((x1.toUInt32 >>> ((2 : Int32) &&& 31).toUInt32).toInt32) &&& (255 : Int32)).toUInt32.toUInt16.toUInt32.toInt32), .val (.int (((x1.toUInt32 >>> ((10 : Int32) &&& 31).toUInt32).toInt32) &&& (255 : Int32)).toUInt32.toUInt16.toUInt32.toInt32), .val (.int (((x1.toUInt32 >>> ((18 : Int32) &&& 31).toUInt32).toInt32) &&& (255 : Int32)).toUInt32.toUInt16.toUInt32.toInt32)] [(.ref b280), (.ref b269), (.ref b269)])) _
        refine own_back (fun t k => XS.dup X280.here hx rfl (hb hby mk_d81) rfl rfl k) ?_
        show OwnGo p e below (T280.setTop (mkF m 82 #[.val (.int x1), .val (.int (x1 &&& (3 : Int32))), .val (.int (((x1.toUInt32 >>> ((2 : Int32) &&& 31).toUInt32).toInt32) &&& (255 : Int32)).toUInt32.toUInt16.toUInt32.toInt32), .val (.int (((x1.toUInt32 >>> ((10 : Int32) &&& 31).toUInt32).toInt32) &&& (255 : Int32)).toUInt32.toUInt16.toUInt32.toInt32), .val (.int (((x1.toUInt32 >>> ((18 : Int32) &&& 31).toUInt32).toInt32) &&& (255 : Int32)).toUInt32.toUInt16.toUInt32.toInt32)] [(.ref b280), (.ref b280), (.ref b269), (.ref b269)])) _
        refine own_back (fun t k => XS.iconst X280.here hx rfl (hb hby mk_d82) k) ?_
        show OwnGo p e below (T280.setTop (mkF m 83 #[.val (.int x1), .val (.int (x1 &&& (3 : Int32))), .val (.int (((x1.toUInt32 >>> ((2 : Int32) &&& 31).toUInt32).toInt32) &&& (255 : Int32)).toUInt32.toUInt16.toUInt32.toInt32), .val (.int (((x1.toUInt32 >>> ((10 : Int32) &&& 31).toUInt32).toInt32) &&& (255 : Int32)).toUInt32.toUInt16.toUInt32.toInt32), .val (.int (((x1.toUInt32 >>> ((18 : Int32) &&& 31).toUInt32).toInt32) &&& (255 : Int32)).toUInt32.toUInt16.toUInt32.toInt32)] [(.int (0 : Int32)), (.ref b280), (.ref b280), (.ref b269), (.ref b269)])) _
        refine own_back (fun t k => XS.iloadN X280.here hx rfl (hb hby mk_d83) rfl k) ?_
        show OwnGo p e below (T280.setTop (mkF m 84 #[.val (.int x1), .val (.int (x1 &&& (3 : Int32))), .val (.int (((x1.toUInt32 >>> ((2 : Int32) &&& 31).toUInt32).toInt32) &&& (255 : Int32)).toUInt32.toUInt16.toUInt32.toInt32), .val (.int (((x1.toUInt32 >>> ((10 : Int32) &&& 31).toUInt32).toInt32) &&& (255 : Int32)).toUInt32.toUInt16.toUInt32.toInt32), .val (.int (((x1.toUInt32 >>> ((18 : Int32) &&& 31).toUInt32).toInt32) &&& (255 : Int32)).toUInt32.toUInt16.toUInt32.toInt32)] [(.int (((x1.toUInt32 >>> ((2 : Int32) &&& 31).toUInt32).toInt32) &&& (255 : Int32)).toUInt32.toUInt16.toUInt32.toInt32), (.int (0 : Int32)), (.ref b280), (.ref b280), (.ref b269), (.ref b269)])) _
        obtain ⟨c294, A294, q294, S294, M294, H294, U294⟩ := id V292
        obtain ⟨T295, h295, X295, e295, W295, st295⟩ := stC X280 hx hZ e280 A294 (j := (0 : Int32)) (inb_of S294 ⟨by decide, by decide⟩) (g := (mkF m 84 #[.val (.int x1), .val (.int (x1 &&& (3 : Int32))), .val (.int (((x1.toUInt32 >>> ((2 : Int32) &&& 31).toUInt32).toInt32) &&& (255 : Int32)).toUInt32.toUInt16.toUInt32.toInt32), .val (.int (((x1.toUInt32 >>> ((10 : Int32) &&& 31).toUInt32).toInt32) &&& (255 : Int32)).toUInt32.toUInt16.toUInt32.toInt32), .val (.int (((x1.toUInt32 >>> ((18 : Int32) &&& 31).toUInt32).toInt32) &&& (255 : Int32)).toUInt32.toUInt16.toUInt32.toInt32)] [(.int (((x1.toUInt32 >>> ((2 : Int32) &&& 31).toUInt32).toInt32) &&& (255 : Int32)).toUInt32.toUInt16.toUInt32.toInt32), (.int (0 : Int32)), (.ref b280), (.ref b280), (.ref b269), (.ref b269)])) rfl rfl (hb hby mk_d84)
        have O296 := O283.wr W295 ge281
        have KP297 := KP284.wr W295 (Or.inr sz282)
        have Zs298 := Nat.le_trans Zs285 (Keep.of_wr W295).1
        have CR299 := CR286.trans (CHr.wr W295 sf293 CR286.1)
        have hk300 := Nat.le_trans hk287 (Keep.of_wr W295).1
        have f301 := f288.wr W295
        have f302 := f289.other W295 (Or.inl (Nat.ne_of_lt (Nat.lt_of_lt_of_le A269.lt (Nat.le_of_eq g280.symm))))
        have f303 := f290.other W295 (Or.inl (Nat.ne_of_lt (Nat.lt_of_lt_of_le A269.lt (Nat.le_of_eq g280.symm))))
        have f304 := (Safe.wr W295 sf293 CR286.1 f291)
        have f305 := (Safe.wr W295 sf293 CR286.1 sf293)
        have V306 : Arv Z h295 b280 k280 .char (2 : Int32) [(.int (nar .char (((x1.toUInt32 >>> ((2 : Int32) &&& 31).toUInt32).toInt32) &&& (255 : Int32)).toUInt32.toUInt16.toUInt32.toInt32)), (.int (0 : Int32))] (.int (0 : Int32)) := Arv.set A294 q294 S294 M294 H294 U294 (fits_nar_char _) W295 0 rfl (Nat.le_of_ble_eq_true rfl)
        have N307 := Fr.snoc X295 N0 ge281
        refine own_back st295 ?_
        show OwnGo p e below (T295.setTop (mkF m 85 #[.val (.int x1), .val (.int (x1 &&& (3 : Int32))), .val (.int (((x1.toUInt32 >>> ((2 : Int32) &&& 31).toUInt32).toInt32) &&& (255 : Int32)).toUInt32.toUInt16.toUInt32.toInt32), .val (.int (((x1.toUInt32 >>> ((10 : Int32) &&& 31).toUInt32).toInt32) &&& (255 : Int32)).toUInt32.toUInt16.toUInt32.toInt32), .val (.int (((x1.toUInt32 >>> ((18 : Int32) &&& 31).toUInt32).toInt32) &&& (255 : Int32)).toUInt32.toUInt16.toUInt32.toInt32)] [(.ref b280), (.ref b269), (.ref b269)])) _
        refine own_back (fun t k => XS.dup X295.here hx rfl (hb hby mk_d85) rfl rfl k) ?_
        show OwnGo p e below (T295.setTop (mkF m 86 #[.val (.int x1), .val (.int (x1 &&& (3 : Int32))), .val (.int (((x1.toUInt32 >>> ((2 : Int32) &&& 31).toUInt32).toInt32) &&& (255 : Int32)).toUInt32.toUInt16.toUInt32.toInt32), .val (.int (((x1.toUInt32 >>> ((10 : Int32) &&& 31).toUInt32).toInt32) &&& (255 : Int32)).toUInt32.toUInt16.toUInt32.toInt32), .val (.int (((x1.toUInt32 >>> ((18 : Int32) &&& 31).toUInt32).toInt32) &&& (255 : Int32)).toUInt32.toUInt16.toUInt32.toInt32)] [(.ref b280), (.ref b280), (.ref b269), (.ref b269)])) _
        refine own_back (fun t k => XS.iconst X295.here hx rfl (hb hby mk_d86) k) ?_
        show OwnGo p e below (T295.setTop (mkF m 87 #[.val (.int x1), .val (.int (x1 &&& (3 : Int32))), .val (.int (((x1.toUInt32 >>> ((2 : Int32) &&& 31).toUInt32).toInt32) &&& (255 : Int32)).toUInt32.toUInt16.toUInt32.toInt32), .val (.int (((x1.toUInt32 >>> ((10 : Int32) &&& 31).toUInt32).toInt32) &&& (255 : Int32)).toUInt32.toUInt16.toUInt32.toInt32), .val (.int (((x1.toUInt32 >>> ((18 : Int32) &&& 31).toUInt32).toInt32) &&& (255 : Int32)).toUInt32.toUInt16.toUInt32.toInt32)] [(.int (1 : Int32)), (.ref b280), (.ref b280), (.ref b269), (.ref b269)])) _
        refine own_back (fun t k => XS.iloadN X295.here hx rfl (hb hby mk_d87) rfl k) ?_
        show OwnGo p e below (T295.setTop (mkF m 88 #[.val (.int x1), .val (.int (x1 &&& (3 : Int32))), .val (.int (((x1.toUInt32 >>> ((2 : Int32) &&& 31).toUInt32).toInt32) &&& (255 : Int32)).toUInt32.toUInt16.toUInt32.toInt32), .val (.int (((x1.toUInt32 >>> ((10 : Int32) &&& 31).toUInt32).toInt32) &&& (255 : Int32)).toUInt32.toUInt16.toUInt32.toInt32), .val (.int (((x1.toUInt32 >>> ((18 : Int32) &&& 31).toUInt32).toInt32) &&& (255 : Int32)).toUInt32.toUInt16.toUInt32.toInt32)] [(.int (((x1.toUInt32 >>> ((10 : Int32) &&& 31).toUInt32).toInt32) &&& (255 : Int32)).toUInt32.toUInt16.toUInt32.toInt32), (.int (1 : Int32)), (.ref b280), (.ref b280), (.ref b269), (.ref b269)])) _
        obtain ⟨c308, A308, q308, S308, M308, H308, U308⟩ := id V306
        obtain ⟨T309, h309, X309, e309, W309, st309⟩ := stC X295 hx hZ e295 A308 (j := (1 : Int32)) (inb_of S308 ⟨by decide, by decide⟩) (g := (mkF m 88 #[.val (.int x1), .val (.int (x1 &&& (3 : Int32))), .val (.int (((x1.toUInt32 >>> ((2 : Int32) &&& 31).toUInt32).toInt32) &&& (255 : Int32)).toUInt32.toUInt16.toUInt32.toInt32), .val (.int (((x1.toUInt32 >>> ((10 : Int32) &&& 31).toUInt32).toInt32) &&& (255 : Int32)).toUInt32.toUInt16.toUInt32.toInt32), .val (.int (((x1.toUInt32 >>> ((18 : Int32) &&& 31).toUInt32).toInt32) &&& (255 : Int32)).toUInt32.toUInt16.toUInt32.toInt32)] [(.int (((x1.toUInt32 >>> ((10 : Int32) &&& 31).toUInt32).toInt32) &&& (255 : Int32)).toUInt32.toUInt16.toUInt32.toInt32), (.int (1 : Int32)), (.ref b280), (.ref b280), (.ref b269), (.ref b269)])) rfl rfl (hb hby mk_d88)
        have O310 := O296.wr W309 ge281
        have KP311 := KP297.wr W309 (Or.inr sz282)
        have Zs312 := Nat.le_trans Zs298 (Keep.of_wr W309).1
        have CR313 := CR299.trans (CHr.wr W309 f305 CR299.1)
        have hk314 := Nat.le_trans hk300 (Keep.of_wr W309).1
        have f315 := f301.wr W309
        have f316 := f302.other W309 (Or.inl (Nat.ne_of_lt (Nat.lt_of_lt_of_le A269.lt (Nat.le_of_eq g280.symm))))
        have f317 := f303.other W309 (Or.inl (Nat.ne_of_lt (Nat.lt_of_lt_of_le A269.lt (Nat.le_of_eq g280.symm))))
        have f318 := (Safe.wr W309 f305 CR299.1 f304)
        have f319 := (Safe.wr W309 f305 CR299.1 f305)
        have V320 : Arv Z h309 b280 k280 .char (2 : Int32) [(.int (nar .char (((x1.toUInt32 >>> ((2 : Int32) &&& 31).toUInt32).toInt32) &&& (255 : Int32)).toUInt32.toUInt16.toUInt32.toInt32)), (.int (nar .char (((x1.toUInt32 >>> ((10 : Int32) &&& 31).toUInt32).toInt32) &&& (255 : Int32)).toUInt32.toUInt16.toUInt32.toInt32))] (.int (0 : Int32)) := Arv.set A308 q308 S308 M308 H308 U308 (fits_nar_char _) W309 1 rfl (Nat.le_of_ble_eq_true rfl)
        have N321 := Fr.snoc X309 N307 ge281
        refine own_back st309 ?_
        show OwnGo p e below (T309.setTop (mkF m 89 #[.val (.int x1), .val (.int (x1 &&& (3 : Int32))), .val (.int (((x1.toUInt32 >>> ((2 : Int32) &&& 31).toUInt32).toInt32) &&& (255 : Int32)).toUInt32.toUInt16.toUInt32.toInt32), .val (.int (((x1.toUInt32 >>> ((10 : Int32) &&& 31).toUInt32).toInt32) &&& (255 : Int32)).toUInt32.toUInt16.toUInt32.toInt32), .val (.int (((x1.toUInt32 >>> ((18 : Int32) &&& 31).toUInt32).toInt32) &&& (255 : Int32)).toUInt32.toUInt16.toUInt32.toInt32)] [(.ref b280), (.ref b269), (.ref b269)])) _
        obtain ⟨_, _, ⟨T322, L322, k322, n322⟩, -, X322, ⟨Lc322, hQ322, l322, y322, z322⟩, st322⟩ := X309.specialBack hx (y := (⟨"java/lang/String", "<init>", "([C)V"⟩ : MethodName)) rfl hown (mvT hZ (hw _ (List.mem_of_getElem? (i := 8) rfl))) (mvT hZ (hw _ (List.mem_of_getElem? (i := 9) rfl))) (mvT hZ (hw _ (List.mem_of_getElem? (i := 10) rfl))) (by decide) (StrChars.Road.backV (W := 1) hZ (own_wV hw) (kI := 4) (hw _ (List.mem_of_getElem? (i := 5) rfl)) (cs := ([(nar .char (((x1.toUInt32 >>> ((2 : Int32) &&& 31).toUInt32).toInt32) &&& (255 : Int32)).toUInt32.toUInt16.toUInt32.toInt32), (nar .char (((x1.toUInt32 >>> ((10 : Int32) &&& 31).toUInt32).toInt32) &&& (255 : Int32)).toUInt32.toUInt16.toUInt32.toInt32)] : List Int32)) (bs := ([(nar .char (((x1.toUInt32 >>> ((2 : Int32) &&& 31).toUInt32).toInt32) &&& (255 : Int32)).toUInt32.toUInt16.toUInt32.toInt32), (nar .char (((x1.toUInt32 >>> ((10 : Int32) &&& 31).toUInt32).toInt32) &&& (255 : Int32)).toUInt32.toUInt16.toUInt32.toInt32)] : List Int32).map (fun c => c.toInt8.toInt32)) (n := 2) ge270 Zs312 f315 f317 f316 V320 (SC.ext O310.2) hcz rfl rfl (by decide) (by decide) (own_allS (own_c255 _) (own_allS (own_c255 _) own_all0)) rfl (by decide) (by decide)) (g := (mkF m 89 #[.val (.int x1), .val (.int (x1 &&& (3 : Int32))), .val (.int (((x1.toUInt32 >>> ((2 : Int32) &&& 31).toUInt32).toInt32) &&& (255 : Int32)).toUInt32.toUInt16.toUInt32.toInt32), .val (.int (((x1.toUInt32 >>> ((10 : Int32) &&& 31).toUInt32).toInt32) &&& (255 : Int32)).toUInt32.toUInt16.toUInt32.toInt32), .val (.int (((x1.toUInt32 >>> ((18 : Int32) &&& 31).toUInt32).toInt32) &&& (255 : Int32)).toUInt32.toUInt16.toUInt32.toInt32)] [(.ref b280), (.ref b269), (.ref b269)])) rfl (by rw [hml]; rfl) (Steps.refl _) (a := b269) (argsL := [(.ref b280)]) (rest := [(.ref b269)]) (lenOf mk_pd0 rfl) rfl (by show 2 * 0 + _ ≤ _; exact Nat.le_of_eq rfl) (hb hby mk_d89) (fun _ _ => ⟨rfl, e309, Nat.le_of_ble_eq_true rfl, Nat.le_of_ble_eq_true rfl⟩)
        dsimp only [Pt.U, Pt.locs, Pt.cells, Pt.slots] at X322 l322 y322 z322 st322 hQ322
        subst l322 y322 z322
        obtain ⟨rfl, N322q, K322, EX322, C322, t322, kb322, gt322, zt322, nt322, FV322, AV322⟩ := hQ322
        refine own_seq st322 ?_
        have N322 := Fr.app N321 N322q
        have O323 := O310.keep K322 (allS ge270 all0)
        have KP324 := KP311.trans K322 (allS (Or.inr sz271) all0)
        have Zs325 := Nat.le_trans Zs312 K322.1
        have CR326 := CR313.trans (CHr.keep K322 (sfS f318 sf0) CR313.1)
        have hk327 := Nat.le_trans hk314 K322.1
        have f328 := f315.keep K322
        have f329 := (Safe.keep K322 (sfS f318 sf0) CR313.1 f318)
        have f330 := (Safe.keep K322 (sfS f318 sf0) CR313.1 f319)
        have f331 := V320.keep K322 (ninS (Ne.symm (Nat.ne_of_lt (Nat.lt_of_lt_of_le A269.lt (Nat.le_of_eq g280.symm)))) nin0)
        show OwnGo p e below (T322.setTop (mkF m 92 #[.val (.int x1), .val (.int (x1 &&& (3 : Int32))), .val (.int (((x1.toUInt32 >>> ((2 : Int32) &&& 31).toUInt32).toInt32) &&& (255 : Int32)).toUInt32.toUInt16.toUInt32.toInt32), .val (.int (((x1.toUInt32 >>> ((10 : Int32) &&& 31).toUInt32).toInt32) &&& (255 : Int32)).toUInt32.toUInt16.toUInt32.toInt32), .val (.int (((x1.toUInt32 >>> ((18 : Int32) &&& 31).toUInt32).toInt32) &&& (255 : Int32)).toUInt32.toUInt16.toUInt32.toInt32)] [(.ref b269)])) _
        refine own_retAW X322 hx Bd.notSynchronized Bd.returns rfl rfl hS0 hk327 hZ hEL (hh ▸ CR326) (hb hby mk_d92) rfl (Nat.le_of_ble_eq_true rfl) (Nat.le_of_ble_eq_true rfl) ?_
        exact ⟨b269, rfl, N322, own_ext KP324, by rw [own_mk, if_neg hc35_183, if_neg hc51_218, if_pos hc71_268]; exact (⟨t322, kb322, EX322, C322, FV322, AV322, Nat.le_of_ble_eq_true rfl⟩ : OwnStr Z T322.heap b269 [((nar .char (((x1.toUInt32 >>> ((2 : Int32) &&& 31).toUInt32).toInt32) &&& (255 : Int32)).toUInt32.toUInt16.toUInt32.toInt32)).toInt8.toInt32, ((nar .char (((x1.toUInt32 >>> ((10 : Int32) &&& 31).toUInt32).toInt32) &&& (255 : Int32)).toUInt32.toUInt16.toUInt32.toInt32)).toInt8.toInt32])⟩
      · refine own_back (fun t k => XS.icmpYes X0.here hx rfl (pc0 := 71) (pc' := 93) rfl (hb hby mk_d71) rfl (Jvm.Free.XT.ii_ne_t hc71_268) (by decide) (by decide) k) ?_
        show OwnGo p e below (s₁.setTop (mkF m 93 #[.val (.int x1), .val (.int (x1 &&& (3 : Int32))), .val (.int (((x1.toUInt32 >>> ((2 : Int32) &&& 31).toUInt32).toInt32) &&& (255 : Int32)).toUInt32.toUInt16.toUInt32.toInt32), .val (.int (((x1.toUInt32 >>> ((10 : Int32) &&& 31).toUInt32).toInt32) &&& (255 : Int32)).toUInt32.toUInt16.toUInt32.toInt32), .val (.int (((x1.toUInt32 >>> ((18 : Int32) &&& 31).toUInt32).toInt32) &&& (255 : Int32)).toUInt32.toUInt16.toUInt32.toInt32)] [])) _
        obtain ⟨T332, h332, X332, e332, E332, A332, D332, -, st332⟩ := newO X0 hx hZ hown (hw _ (List.mem_of_getElem? (i := 4) rfl)) (hw _ (List.mem_of_getElem? (i := 5) rfl)) (hw _ (List.mem_of_getElem? (i := 6) rfl)) e0 (g := (mkF m 93 #[.val (.int x1), .val (.int (x1 &&& (3 : Int32))), .val (.int (((x1.toUInt32 >>> ((2 : Int32) &&& 31).toUInt32).toInt32) &&& (255 : Int32)).toUInt32.toUInt16.toUInt32.toInt32), .val (.int (((x1.toUInt32 >>> ((10 : Int32) &&& 31).toUInt32).toInt32) &&& (255 : Int32)).toUInt32.toUInt16.toUInt32.toInt32), .val (.int (((x1.toUInt32 >>> ((18 : Int32) &&& 31).toUInt32).toInt32) &&& (255 : Int32)).toUInt32.toUInt16.toUInt32.toInt32)] [])) rfl (hb hby mk_d93) (Nat.le_of_ble_eq_true rfl) (Nat.le_of_ble_eq_true rfl)
        obtain ⟨b332, g332⟩ : ∃ z, z = h0.size := ⟨_, rfl⟩
        have ge333 : n0 ≤ b332 := Nat.le_trans Z0 (Nat.le_of_eq g332.symm)
        have sz334 : h0.size ≤ b332 := Nat.le_trans KP0.1 (Nat.le_of_eq g332.symm)
        rw [← g332] at A332 D332 st332
        have O335 := OL.ext E332
        have KP336 := KP0.ext E332
        have Zs337 := Nat.le_trans Z0 E332.1
        have CR338 := CR0.trans (CHr.ext E332 CR0.1)
        have hk339 := Nat.le_trans hk0 E332.1
        have F340 : Fld Z h332 b332 "java/lang/String" "coder" "B" (.int (0 : Int32)) := D332 (Or.inr (hw _ (List.mem_of_getElem? (i := 31) rfl))) (ty := .byte) (by decide)
        have F341 : Fld Z h332 b332 "java/lang/String" "value" "[B" .null := D332 (Or.inr (hw _ (List.mem_of_getElem? (i := 33) rfl))) (ty := (.array .byte)) (by decide)
        have sf342 := Safe.ext E332 CR0.1 (Safe.new (Nat.le_of_eq g332.symm))
        refine own_back st332 ?_
        show OwnGo p e below (T332.setTop (mkF m 96 #[.val (.int x1), .val (.int (x1 &&& (3 : Int32))), .val (.int (((x1.toUInt32 >>> ((2 : Int32) &&& 31).toUInt32).toInt32) &&& (255 : Int32)).toUInt32.toUInt16.toUInt32.toInt32), .val (.int (((x1.toUInt32 >>> ((10 : Int32) &&& 31).toUInt32).toInt32) &&& (255 : Int32)).toUInt32.toUInt16.toUInt32.toInt32), .val (.int (((x1.toUInt32 >>> ((18 : Int32) &&& 31).toUInt32).toInt32) &&& (255 : Int32)).toUInt32.toUInt16.toUInt32.toInt32)] [(.ref b332)])) _
        refine own_back (fun t k => XS.dup X332.here hx rfl (hb hby mk_d96) rfl rfl k) ?_
        show OwnGo p e below (T332.setTop (mkF m 97 #[.val (.int x1), .val (.int (x1 &&& (3 : Int32))), .val (.int (((x1.toUInt32 >>> ((2 : Int32) &&& 31).toUInt32).toInt32) &&& (255 : Int32)).toUInt32.toUInt16.toUInt32.toInt32), .val (.int (((x1.toUInt32 >>> ((10 : Int32) &&& 31).toUInt32).toInt32) &&& (255 : Int32)).toUInt32.toUInt16.toUInt32.toInt32), .val (.int (((x1.toUInt32 >>> ((18 : Int32) &&& 31).toUInt32).toInt32) &&& (255 : Int32)).toUInt32.toUInt16.toUInt32.toInt32)] [(.ref b332), (.ref b332)])) _
        refine own_back (fun t k => XS.iconst X332.here hx rfl (hb hby mk_d97) k) ?_
        show OwnGo p e below (T332.setTop (mkF m 98 #[.val (.int x1), .val (.int (x1 &&& (3 : Int32))), .val (.int (((x1.toUInt32 >>> ((2 : Int32) &&& 31).toUInt32).toInt32) &&& (255 : Int32)).toUInt32.toUInt16.toUInt32.toInt32), .val (.int (((x1.toUInt32 >>> ((10 : Int32) &&& 31).toUInt32).toInt32) &&& (255 : Int32)).toUInt32.toUInt16.toUInt32.toInt32), .val (.int (((x1.toUInt32 >>> ((18 : Int32) &&& 31).toUInt32).toInt32) &&& (255 : Int32)).toUInt32.toUInt16.toUInt32.toInt32)] [(.int (3 : Int32)), (.ref b332), (.ref b332)])) _
        obtain ⟨T343, h343, k343, X343, e343, E343, A343, st343⟩ := newP X332 hx hZ (hw _ (List.mem_of_getElem? (i := 7) rfl)) e332 (g := (mkF m 98 #[.val (.int x1), .val (.int (x1 &&& (3 : Int32))), .val (.int (((x1.toUInt32 >>> ((2 : Int32) &&& 31).toUInt32).toInt32) &&& (255 : Int32)).toUInt32.toUInt16.toUInt32.toInt32), .val (.int (((x1.toUInt32 >>> ((10 : Int32) &&& 31).toUInt32).toInt32) &&& (255 : Int32)).toUInt32.toUInt16.toUInt32.toInt32), .val (.int (((x1.toUInt32 >>> ((18 : Int32) &&& 31).toUInt32).toInt32) &&& (255 : Int32)).toUInt32.toUInt16.toUInt32.toInt32)] [(.int (3 : Int32)), (.ref b332), (.ref b332)])) rfl (hb hby mk_d98) rfl (by decide) (cap := 3) (by decide) (by decide) (Nat.le_of_ble_eq_true rfl) (Nat.le_of_ble_eq_true rfl)
        obtain ⟨b343, g343⟩ : ∃ z, z = h332.size := ⟨_, rfl⟩
        have ge344 : n0 ≤ b343 := Nat.le_trans Zs337 (Nat.le_of_eq g343.symm)
        have sz345 : h0.size ≤ b343 := Nat.le_trans KP336.1 (Nat.le_of_eq g343.symm)
        rw [← g343] at A343 st343
        have O346 := O335.ext E343
        have KP347 := KP336.ext E343
        have Zs348 := Nat.le_trans Zs337 E343.1
        have CR349 := CR338.trans (CHr.ext E343 CR338.1)
        have hk350 := Nat.le_trans hk339 E343.1
        have f351 := A332.ext E343
        have f352 := F340.ext E343
        have f353 := F341.ext E343
        have f354 := (Safe.ext E343 CR338.1 sf342)
        have V355 : Arv Z h343 b343 k343 .char (3 : Int32) [(.int (0 : Int32)), (.int (0 : Int32)), (.int (0 : Int32))] (.int (0 : Int32)) := (Arv.new A343 (by decide)).pad (pad_rep [] (.int (0 : Int32)) 3)
        have sf356 := Safe.ext E343 CR338.1 (Safe.new (Nat.le_of_eq g343.symm))
        refine own_back st343 ?_
        show OwnGo p e below (T343.setTop (mkF m 100 #[.val (.int x1), .val (.int (x1 &&& (3 : Int32))), .val (.int (((x1.toUInt32 >>> ((2 : Int32) &&& 31).toUInt32).toInt32) &&& (255 : Int32)).toUInt32.toUInt16.toUInt32.toInt32), .val (.int (((x1.toUInt32 >>> ((10 : Int32) &&& 31).toUInt32).toInt32) &&& (255 : Int32)).toUInt32.toUInt16.toUInt32.toInt32), .val (.int (((x1.toUInt32 >>> ((18 : Int32) &&& 31).toUInt32).toInt32) &&& (255 : Int32)).toUInt32.toUInt16.toUInt32.toInt32)] [(.ref b343), (.ref b332), (.ref b332)])) _
        refine own_back (fun t k => XS.dup X343.here hx rfl (hb hby mk_d100) rfl rfl k) ?_
        show OwnGo p e below (T343.setTop (mkF m 101 #[.val (.int x1), .val (.int (x1 &&& (3 : Int32))), .val (.int (((x1.toUInt32 >>> ((2 : Int32) &&& 31).toUInt32).toInt32) &&& (255 : Int32)).toUInt32.toUInt16.toUInt32.toInt32), .val (.int (((x1.toUInt32 >>> ((10 : Int32) &&& 31).toUInt32).toInt32) &&& (255 : Int32)).toUInt32.toUInt16.toUInt32.toInt32), .val (.int (((x1.toUInt32 >>> ((18 : Int32) &&& 31).toUInt32).toInt32) &&& (255 : Int32)).toUInt32.toUInt16.toUInt32.toInt32)] [(.ref b343), (.ref b343), (.ref b332), (.ref b332)])) _
        refine own_back (fun t k => XS.iconst X343.here hx rfl (hb hby mk_d101) k) ?_
        show OwnGo p e below (T343.setTop (mkF m 102 #[.val (.int x1), .val (.int (x1 &&& (3 : Int32))), .val (.int (((x1.toUInt32 >>> ((2 : Int32) &&& 31).toUInt32).toInt32) &&& (255 : Int32)).toUInt32.toUInt16.toUInt32.toInt32), .val (.int (((x1.toUInt32 >>> ((10 : Int32) &&& 31).toUInt32).toInt32) &&& (255 : Int32)).toUInt32.toUInt16.toUInt32.toInt32), .val (.int (((x1.toUInt32 >>> ((18 : Int32) &&& 31).toUInt32).toInt32) &&& (255 : Int32)).toUInt32.toUInt16.toUInt32.toInt32)] [(.int (0 : Int32)), (.ref b343), (.ref b343), (.ref b332), (.ref b332)])) _
        refine own_back (fun t k => XS.iloadN X343.here hx rfl (hb hby mk_d102) rfl k) ?_
        show OwnGo p e below (T343.setTop (mkF m 103 #[.val (.int x1), .val (.int (x1 &&& (3 : Int32))), .val (.int (((x1.toUInt32 >>> ((2 : Int32) &&& 31).toUInt32).toInt32) &&& (255 : Int32)).toUInt32.toUInt16.toUInt32.toInt32), .val (.int (((x1.toUInt32 >>> ((10 : Int32) &&& 31).toUInt32).toInt32) &&& (255 : Int32)).toUInt32.toUInt16.toUInt32.toInt32), .val (.int (((x1.toUInt32 >>> ((18 : Int32) &&& 31).toUInt32).toInt32) &&& (255 : Int32)).toUInt32.toUInt16.toUInt32.toInt32)] [(.int (((x1.toUInt32 >>> ((2 : Int32) &&& 31).toUInt32).toInt32) &&& (255 : Int32)).toUInt32.toUInt16.toUInt32.toInt32), (.int (0 : Int32)), (.ref b343), (.ref b343), (.ref b332), (.ref b332)])) _
        obtain ⟨c357, A357, q357, S357, M357, H357, U357⟩ := id V355
        obtain ⟨T358, h358, X358, e358, W358, st358⟩ := stC X343 hx hZ e343 A357 (j := (0 : Int32)) (inb_of S357 ⟨by decide, by decide⟩) (g := (mkF m 103 #[.val (.int x1), .val (.int (x1 &&& (3 : Int32))), .val (.int (((x1.toUInt32 >>> ((2 : Int32) &&& 31).toUInt32).toInt32) &&& (255 : Int32)).toUInt32.toUInt16.toUInt32.toInt32), .val (.int (((x1.toUInt32 >>> ((10 : Int32) &&& 31).toUInt32).toInt32) &&& (255 : Int32)).toUInt32.toUInt16.toUInt32.toInt32), .val (.int (((x1.toUInt32 >>> ((18 : Int32) &&& 31).toUInt32).toInt32) &&& (255 : Int32)).toUInt32.toUInt16.toUInt32.toInt32)] [(.int (((x1.toUInt32 >>> ((2 : Int32) &&& 31).toUInt32).toInt32) &&& (255 : Int32)).toUInt32.toUInt16.toUInt32.toInt32), (.int (0 : Int32)), (.ref b343), (.ref b343), (.ref b332), (.ref b332)])) rfl rfl (hb hby mk_d103)
        have O359 := O346.wr W358 ge344
        have KP360 := KP347.wr W358 (Or.inr sz345)
        have Zs361 := Nat.le_trans Zs348 (Keep.of_wr W358).1
        have CR362 := CR349.trans (CHr.wr W358 sf356 CR349.1)
        have hk363 := Nat.le_trans hk350 (Keep.of_wr W358).1
        have f364 := f351.wr W358
        have f365 := f352.other W358 (Or.inl (Nat.ne_of_lt (Nat.lt_of_lt_of_le A332.lt (Nat.le_of_eq g343.symm))))
        have f366 := f353.other W358 (Or.inl (Nat.ne_of_lt (Nat.lt_of_lt_of_le A332.lt (Nat.le_of_eq g343.symm))))
        have f367 := (Safe.wr W358 sf356 CR349.1 f354)
        have f368 := (Safe.wr W358 sf356 CR349.1 sf356)
        have V369 : Arv Z h358 b343 k343 .char (3 : Int32) [(.int (nar .char (((x1.toUInt32 >>> ((2 : Int32) &&& 31).toUInt32).toInt32) &&& (255 : Int32)).toUInt32.toUInt16.toUInt32.toInt32)), (.int (0 : Int32)), (.int (0 : Int32))] (.int (0 : Int32)) := Arv.set A357 q357 S357 M357 H357 U357 (fits_nar_char _) W358 0 rfl (Nat.le_of_ble_eq_true rfl)
        have N370 := Fr.snoc X358 N0 ge344
        refine own_back st358 ?_
        show OwnGo p e below (T358.setTop (mkF m 104 #[.val (.int x1), .val (.int (x1 &&& (3 : Int32))), .val (.int (((x1.toUInt32 >>> ((2 : Int32) &&& 31).toUInt32).toInt32) &&& (255 : Int32)).toUInt32.toUInt16.toUInt32.toInt32), .val (.int (((x1.toUInt32 >>> ((10 : Int32) &&& 31).toUInt32).toInt32) &&& (255 : Int32)).toUInt32.toUInt16.toUInt32.toInt32), .val (.int (((x1.toUInt32 >>> ((18 : Int32) &&& 31).toUInt32).toInt32) &&& (255 : Int32)).toUInt32.toUInt16.toUInt32.toInt32)] [(.ref b343), (.ref b332), (.ref b332)])) _
        refine own_back (fun t k => XS.dup X358.here hx rfl (hb hby mk_d104) rfl rfl k) ?_
        show OwnGo p e below (T358.setTop (mkF m 105 #[.val (.int x1), .val (.int (x1 &&& (3 : Int32))), .val (.int (((x1.toUInt32 >>> ((2 : Int32) &&& 31).toUInt32).toInt32) &&& (255 : Int32)).toUInt32.toUInt16.toUInt32.toInt32), .val (.int (((x1.toUInt32 >>> ((10 : Int32) &&& 31).toUInt32).toInt32) &&& (255 : Int32)).toUInt32.toUInt16.toUInt32.toInt32), .val (.int (((x1.toUInt32 >>> ((18 : Int32) &&& 31).toUInt32).toInt32) &&& (255 : Int32)).toUInt32.toUInt16.toUInt32.toInt32)] [(.ref b343), (.ref b343), (.ref b332), (.ref b332)])) _
        refine own_back (fun t k => XS.iconst X358.here hx rfl (hb hby mk_d105) k) ?_
        show OwnGo p e below (T358.setTop (mkF m 106 #[.val (.int x1), .val (.int (x1 &&& (3 : Int32))), .val (.int (((x1.toUInt32 >>> ((2 : Int32) &&& 31).toUInt32).toInt32) &&& (255 : Int32)).toUInt32.toUInt16.toUInt32.toInt32), .val (.int (((x1.toUInt32 >>> ((10 : Int32) &&& 31).toUInt32).toInt32) &&& (255 : Int32)).toUInt32.toUInt16.toUInt32.toInt32), .val (.int (((x1.toUInt32 >>> ((18 : Int32) &&& 31).toUInt32).toInt32) &&& (255 : Int32)).toUInt32.toUInt16.toUInt32.toInt32)] [(.int (1 : Int32)), (.ref b343), (.ref b343), (.ref b332), (.ref b332)])) _
        refine own_back (fun t k => XS.iloadN X358.here hx rfl (hb hby mk_d106) rfl k) ?_
        show OwnGo p e below (T358.setTop (mkF m 107 #[.val (.int x1), .val (.int (x1 &&& (3 : Int32))), .val (.int (((x1.toUInt32 >>> ((2 : Int32) &&& 31).toUInt32).toInt32) &&& (255 : Int32)).toUInt32.toUInt16.toUInt32.toInt32), .val (.int (((x1.toUInt32 >>> ((10 : Int32) &&& 31).toUInt32).toInt32) &&& (255 : Int32)).toUInt32.toUInt16.toUInt32.toInt32), .val (.int (((x1.toUInt32 >>> ((18 : Int32) &&& 31).toUInt32).toInt32) &&& (255 : Int32)).toUInt32.toUInt16.toUInt32.toInt32)] [(.int (((x1.toUInt32 >>> ((10 : Int32) &&& 31).toUInt32).toInt32) &&& (255 : Int32)).toUInt32.toUInt16.toUInt32.toInt32), (.int (1 : Int32)), (.ref b343), (.ref b343), (.ref b332), (.ref b332)])) _
        obtain ⟨c371, A371, q371, S371, M371, H371, U371⟩ := id V369
        obtain ⟨T372, h372, X372, e372, W372, st372⟩ := stC X358 hx hZ e358 A371 (j := (1 : Int32)) (inb_of S371 ⟨by decide, by decide⟩) (g := (mkF m 107 #[.val (.int x1), .val (.int (x1 &&& (3 : Int32))), .val (.int (((x1.toUInt32 >>> ((2 : Int32) &&& 31).toUInt32).toInt32) &&& (255 : Int32)).toUInt32.toUInt16.toUInt32.toInt32), .val (.int (((x1.toUInt32 >>> ((10 : Int32) &&& 31).toUInt32).toInt32) &&& (255 : Int32)).toUInt32.toUInt16.toUInt32.toInt32), .val (.int (((x1.toUInt32 >>> ((18 : Int32) &&& 31).toUInt32).toInt32) &&& (255 : Int32)).toUInt32.toUInt16.toUInt32.toInt32)] [(.int (((x1.toUInt32 >>> ((10 : Int32) &&& 31).toUInt32).toInt32) &&& (255 : Int32)).toUInt32.toUInt16.toUInt32.toInt32), (.int (1 : Int32)), (.ref b343), (.ref b343), (.ref b332), (.ref b332)])) rfl rfl (hb hby mk_d107)
        have O373 := O359.wr W372 ge344
        have KP374 := KP360.wr W372 (Or.inr sz345)
        have Zs375 := Nat.le_trans Zs361 (Keep.of_wr W372).1
        have CR376 := CR362.trans (CHr.wr W372 f368 CR362.1)
        have hk377 := Nat.le_trans hk363 (Keep.of_wr W372).1
        have f378 := f364.wr W372
        have f379 := f365.other W372 (Or.inl (Nat.ne_of_lt (Nat.lt_of_lt_of_le A332.lt (Nat.le_of_eq g343.symm))))
        have f380 := f366.other W372 (Or.inl (Nat.ne_of_lt (Nat.lt_of_lt_of_le A332.lt (Nat.le_of_eq g343.symm))))
        have f381 := (Safe.wr W372 f368 CR362.1 f367)
        have f382 := (Safe.wr W372 f368 CR362.1 f368)
        have V383 : Arv Z h372 b343 k343 .char (3 : Int32) [(.int (nar .char (((x1.toUInt32 >>> ((2 : Int32) &&& 31).toUInt32).toInt32) &&& (255 : Int32)).toUInt32.toUInt16.toUInt32.toInt32)), (.int (nar .char (((x1.toUInt32 >>> ((10 : Int32) &&& 31).toUInt32).toInt32) &&& (255 : Int32)).toUInt32.toUInt16.toUInt32.toInt32)), (.int (0 : Int32))] (.int (0 : Int32)) := Arv.set A371 q371 S371 M371 H371 U371 (fits_nar_char _) W372 1 rfl (Nat.le_of_ble_eq_true rfl)
        have N384 := Fr.snoc X372 N370 ge344
        refine own_back st372 ?_
        show OwnGo p e below (T372.setTop (mkF m 108 #[.val (.int x1), .val (.int (x1 &&& (3 : Int32))), .val (.int (((x1.toUInt32 >>> ((2 : Int32) &&& 31).toUInt32).toInt32) &&& (255 : Int32)).toUInt32.toUInt16.toUInt32.toInt32), .val (.int (((x1.toUInt32 >>> ((10 : Int32) &&& 31).toUInt32).toInt32) &&& (255 : Int32)).toUInt32.toUInt16.toUInt32.toInt32), .val (.int (((x1.toUInt32 >>> ((18 : Int32) &&& 31).toUInt32).toInt32) &&& (255 : Int32)).toUInt32.toUInt16.toUInt32.toInt32)] [(.ref b343), (.ref b332), (.ref b332)])) _
        refine own_back (fun t k => XS.dup X372.here hx rfl (hb hby mk_d108) rfl rfl k) ?_
        show OwnGo p e below (T372.setTop (mkF m 109 #[.val (.int x1), .val (.int (x1 &&& (3 : Int32))), .val (.int (((x1.toUInt32 >>> ((2 : Int32) &&& 31).toUInt32).toInt32) &&& (255 : Int32)).toUInt32.toUInt16.toUInt32.toInt32), .val (.int (((x1.toUInt32 >>> ((10 : Int32) &&& 31).toUInt32).toInt32) &&& (255 : Int32)).toUInt32.toUInt16.toUInt32.toInt32), .val (.int (((x1.toUInt32 >>> ((18 : Int32) &&& 31).toUInt32).toInt32) &&& (255 : Int32)).toUInt32.toUInt16.toUInt32.toInt32)] [(.ref b343), (.ref b343), (.ref b332), (.ref b332)])) _
        refine own_back (fun t k => XS.iconst X372.here hx rfl (hb hby mk_d109) k) ?_
        show OwnGo p e below (T372.setTop (mkF m 110 #[.val (.int x1), .val (.int (x1 &&& (3 : Int32))), .val (.int (((x1.toUInt32 >>> ((2 : Int32) &&& 31).toUInt32).toInt32) &&& (255 : Int32)).toUInt32.toUInt16.toUInt32.toInt32), .val (.int (((x1.toUInt32 >>> ((10 : Int32) &&& 31).toUInt32).toInt32) &&& (255 : Int32)).toUInt32.toUInt16.toUInt32.toInt32), .val (.int (((x1.toUInt32 >>> ((18 : Int32) &&& 31).toUInt32).toInt32) &&& (255 : Int32)).toUInt32.toUInt16.toUInt32.toInt32)] [(.int (2 : Int32)), (.ref b343), (.ref b343), (.ref b332), (.ref b332)])) _
        refine own_back (fun t k => XS.iload X372.here hx rfl (hb hby mk_d110) rfl k) ?_
        show OwnGo p e below (T372.setTop (mkF m 112 #[.val (.int x1), .val (.int (x1 &&& (3 : Int32))), .val (.int (((x1.toUInt32 >>> ((2 : Int32) &&& 31).toUInt32).toInt32) &&& (255 : Int32)).toUInt32.toUInt16.toUInt32.toInt32), .val (.int (((x1.toUInt32 >>> ((10 : Int32) &&& 31).toUInt32).toInt32) &&& (255 : Int32)).toUInt32.toUInt16.toUInt32.toInt32), .val (.int (((x1.toUInt32 >>> ((18 : Int32) &&& 31).toUInt32).toInt32) &&& (255 : Int32)).toUInt32.toUInt16.toUInt32.toInt32)] [(.int (((x1.toUInt32 >>> ((18 : Int32) &&& 31).toUInt32).toInt32) &&& (255 : Int32)).toUInt32.toUInt16.toUInt32.toInt32), (.int (2 : Int32)), (.ref b343), (.ref b343), (.ref b332), (.ref b332)])) _
        obtain ⟨c385, A385, q385, S385, M385, H385, U385⟩ := id V383
        obtain ⟨T386, h386, X386, e386, W386, st386⟩ := stC X372 hx hZ e372 A385 (j := (2 : Int32)) (inb_of S385 ⟨by decide, by decide⟩) (g := (mkF m 112 #[.val (.int x1), .val (.int (x1 &&& (3 : Int32))), .val (.int (((x1.toUInt32 >>> ((2 : Int32) &&& 31).toUInt32).toInt32) &&& (255 : Int32)).toUInt32.toUInt16.toUInt32.toInt32), .val (.int (((x1.toUInt32 >>> ((10 : Int32) &&& 31).toUInt32).toInt32) &&& (255 : Int32)).toUInt32.toUInt16.toUInt32.toInt32), .val (.int (((x1.toUInt32 >>> ((18 : Int32) &&& 31).toUInt32).toInt32) &&& (255 : Int32)).toUInt32.toUInt16.toUInt32.toInt32)] [(.int (((x1.toUInt32 >>> ((18 : Int32) &&& 31).toUInt32).toInt32) &&& (255 : Int32)).toUInt32.toUInt16.toUInt32.toInt32), (.int (2 : Int32)), (.ref b343), (.ref b343), (.ref b332), (.ref b332)])) rfl rfl (hb hby mk_d112)
        have O387 := O373.wr W386 ge344
        have KP388 := KP374.wr W386 (Or.inr sz345)
        have Zs389 := Nat.le_trans Zs375 (Keep.of_wr W386).1
        have CR390 := CR376.trans (CHr.wr W386 f382 CR376.1)
        have hk391 := Nat.le_trans hk377 (Keep.of_wr W386).1
        have f392 := f378.wr W386
        have f393 := f379.other W386 (Or.inl (Nat.ne_of_lt (Nat.lt_of_lt_of_le A332.lt (Nat.le_of_eq g343.symm))))
        have f394 := f380.other W386 (Or.inl (Nat.ne_of_lt (Nat.lt_of_lt_of_le A332.lt (Nat.le_of_eq g343.symm))))
        have f395 := (Safe.wr W386 f382 CR376.1 f381)
        have f396 := (Safe.wr W386 f382 CR376.1 f382)
        have V397 : Arv Z h386 b343 k343 .char (3 : Int32) [(.int (nar .char (((x1.toUInt32 >>> ((2 : Int32) &&& 31).toUInt32).toInt32) &&& (255 : Int32)).toUInt32.toUInt16.toUInt32.toInt32)), (.int (nar .char (((x1.toUInt32 >>> ((10 : Int32) &&& 31).toUInt32).toInt32) &&& (255 : Int32)).toUInt32.toUInt16.toUInt32.toInt32)), (.int (nar .char (((x1.toUInt32 >>> ((18 : Int32) &&& 31).toUInt32).toInt32) &&& (255 : Int32)).toUInt32.toUInt16.toUInt32.toInt32))] (.int (0 : Int32)) := Arv.set A385 q385 S385 M385 H385 U385 (fits_nar_char _) W386 2 rfl (Nat.le_of_ble_eq_true rfl)
        have N398 := Fr.snoc X386 N384 ge344
        refine own_back st386 ?_
        show OwnGo p e below (T386.setTop (mkF m 113 #[.val (.int x1), .val (.int (x1 &&& (3 : Int32))), .val (.int (((x1.toUInt32 >>> ((2 : Int32) &&& 31).toUInt32).toInt32) &&& (255 : Int32)).toUInt32.toUInt16.toUInt32.toInt32), .val (.int (((x1.toUInt32 >>> ((10 : Int32) &&& 31).toUInt32).toInt32) &&& (255 : Int32)).toUInt32.toUInt16.toUInt32.toInt32), .val (.int (((x1.toUInt32 >>> ((18 : Int32) &&& 31).toUInt32).toInt32) &&& (255 : Int32)).toUInt32.toUInt16.toUInt32.toInt32)] [(.ref b343), (.ref b332), (.ref b332)])) _
        obtain ⟨_, _, ⟨T399, L399, k399, n399⟩, -, X399, ⟨Lc399, hQ399, l399, y399, z399⟩, st399⟩ := X386.specialBack hx (y := (⟨"java/lang/String", "<init>", "([C)V"⟩ : MethodName)) rfl hown (mvT hZ (hw _ (List.mem_of_getElem? (i := 8) rfl))) (mvT hZ (hw _ (List.mem_of_getElem? (i := 9) rfl))) (mvT hZ (hw _ (List.mem_of_getElem? (i := 10) rfl))) (by decide) (StrChars.Road.backV (W := 1) hZ (own_wV hw) (kI := 4) (hw _ (List.mem_of_getElem? (i := 5) rfl)) (cs := ([(nar .char (((x1.toUInt32 >>> ((2 : Int32) &&& 31).toUInt32).toInt32) &&& (255 : Int32)).toUInt32.toUInt16.toUInt32.toInt32), (nar .char (((x1.toUInt32 >>> ((10 : Int32) &&& 31).toUInt32).toInt32) &&& (255 : Int32)).toUInt32.toUInt16.toUInt32.toInt32), (nar .char (((x1.toUInt32 >>> ((18 : Int32) &&& 31).toUInt32).toInt32) &&& (255 : Int32)).toUInt32.toUInt16.toUInt32.toInt32)] : List Int32)) (bs := ([(nar .char (((x1.toUInt32 >>> ((2 : Int32) &&& 31).toUInt32).toInt32) &&& (255 : Int32)).toUInt32.toUInt16.toUInt32.toInt32), (nar .char (((x1.toUInt32 >>> ((10 : Int32) &&& 31).toUInt32).toInt32) &&& (255 : Int32)).toUInt32.toUInt16.toUInt32.toInt32), (nar .char (((x1.toUInt32 >>> ((18 : Int32) &&& 31).toUInt32).toInt32) &&& (255 : Int32)).toUInt32.toUInt16.toUInt32.toInt32)] : List Int32).map (fun c => c.toInt8.toInt32)) (n := 3) ge333 Zs389 f392 f394 f393 V397 (SC.ext O387.2) hcz rfl rfl (by decide) (by decide) (own_allS (own_c255 _) (own_allS (own_c255 _) (own_allS (own_c255 _) own_all0))) rfl (by decide) (by decide)) (g := (mkF m 113 #[.val (.int x1), .val (.int (x1 &&& (3 : Int32))), .val (.int (((x1.toUInt32 >>> ((2 : Int32) &&& 31).toUInt32).toInt32) &&& (255 : Int32)).toUInt32.toUInt16.toUInt32.toInt32), .val (.int (((x1.toUInt32 >>> ((10 : Int32) &&& 31).toUInt32).toInt32) &&& (255 : Int32)).toUInt32.toUInt16.toUInt32.toInt32), .val (.int (((x1.toUInt32 >>> ((18 : Int32) &&& 31).toUInt32).toInt32) &&& (255 : Int32)).toUInt32.toUInt16.toUInt32.toInt32)] [(.ref b343), (.ref b332), (.ref b332)])) rfl (by rw [hml]; rfl) (Steps.refl _) (a := b332) (argsL := [(.ref b343)]) (rest := [(.ref b332)]) (lenOf mk_pd0 rfl) rfl (by show 2 * 0 + _ ≤ _; exact Nat.le_of_eq rfl) (hb hby mk_d113) (fun _ _ => ⟨rfl, e386, Nat.le_of_ble_eq_true rfl, Nat.le_of_ble_eq_true rfl⟩)
        dsimp only [Pt.U, Pt.locs, Pt.cells, Pt.slots] at X399 l399 y399 z399 st399 hQ399
        subst l399 y399 z399
        obtain ⟨rfl, N399q, K399, EX399, C399, t399, kb399, gt399, zt399, nt399, FV399, AV399⟩ := hQ399
        refine own_seq st399 ?_
        have N399 := Fr.app N398 N399q
        have O400 := O387.keep K399 (allS ge333 all0)
        have KP401 := KP388.trans K399 (allS (Or.inr sz334) all0)
        have Zs402 := Nat.le_trans Zs389 K399.1
        have CR403 := CR390.trans (CHr.keep K399 (sfS f395 sf0) CR390.1)
        have hk404 := Nat.le_trans hk391 K399.1
        have f405 := f392.keep K399
        have f406 := (Safe.keep K399 (sfS f395 sf0) CR390.1 f395)
        have f407 := (Safe.keep K399 (sfS f395 sf0) CR390.1 f396)
        have f408 := V397.keep K399 (ninS (Ne.symm (Nat.ne_of_lt (Nat.lt_of_lt_of_le A332.lt (Nat.le_of_eq g343.symm)))) nin0)
        show OwnGo p e below (T399.setTop (mkF m 116 #[.val (.int x1), .val (.int (x1 &&& (3 : Int32))), .val (.int (((x1.toUInt32 >>> ((2 : Int32) &&& 31).toUInt32).toInt32) &&& (255 : Int32)).toUInt32.toUInt16.toUInt32.toInt32), .val (.int (((x1.toUInt32 >>> ((10 : Int32) &&& 31).toUInt32).toInt32) &&& (255 : Int32)).toUInt32.toUInt16.toUInt32.toInt32), .val (.int (((x1.toUInt32 >>> ((18 : Int32) &&& 31).toUInt32).toInt32) &&& (255 : Int32)).toUInt32.toUInt16.toUInt32.toInt32)] [(.ref b332)])) _
        refine own_retAW X399 hx Bd.notSynchronized Bd.returns rfl rfl hS0 hk404 hZ hEL (hh ▸ CR403) (hb hby mk_d116) rfl (Nat.le_of_ble_eq_true rfl) (Nat.le_of_ble_eq_true rfl) ?_
        exact ⟨b332, rfl, N399, own_ext KP401, by rw [own_mk, if_neg hc35_183, if_neg hc51_218, if_neg hc71_268]; exact (⟨t399, kb399, EX399, C399, FV399, AV399, Nat.le_of_ble_eq_true rfl⟩ : OwnStr Z T399.heap b332 [((nar .char (((x1.toUInt32 >>> ((2 : Int32) &&& 31).toUInt32).toInt32) &&& (255 : Int32)).toUInt32.toUInt16.toUInt32.toInt32)).toInt8.toInt32, ((nar .char (((x1.toUInt32 >>> ((10 : Int32) &&& 31).toUInt32).toInt32) &&& (255 : Int32)).toUInt32.toUInt16.toUInt32.toInt32)).toInt8.toInt32, ((nar .char (((x1.toUInt32 >>> ((18 : Int32) &&& 31).toUInt32).toInt32) &&& (255 : Int32)).toUInt32.toUInt16.toUInt32.toInt32)).toInt8.toInt32])⟩
theorem oo0_d0 : decode prog_62_method_7_code 0 = .ok (.aload_n 1, 1) := by decide +kernel
theorem oo0_d1 : decode prog_62_method_7_code 1 = .ok (.astore_n 2, 1) := by decide +kernel
theorem oo0_d2 : decode prog_62_method_7_code 2 = .ok (.aload_n 2, 1) := by decide +kernel
theorem oo0_d3 : decode prog_62_method_7_code 3 = .ok (.arraylength, 1) := by decide +kernel
theorem oo0_d4 : decode prog_62_method_7_code 4 = .ok (.istore_n 3, 1) := by decide +kernel
theorem oo0_d5 : decode prog_62_method_7_code 5 = .ok (.iconst 0, 1) := by decide +kernel
theorem oo0_d6 : decode prog_62_method_7_code 6 = .ok (.istore 4, 2) := by decide +kernel
theorem oo0_d8 : decode prog_62_method_7_code 8 = .ok (.iload 4, 2) := by decide +kernel
theorem oo0_d10 : decode prog_62_method_7_code 10 = .ok (.iload_n 3, 1) := by decide +kernel
theorem oo0_d11 : decode prog_62_method_7_code 11 = .ok (.if_icmp .ge 26, 3) := by decide +kernel
theorem oo0_d37 : decode prog_62_method_7_code 37 = .ok (.iconst 0, 1) := by decide +kernel
theorem oo0_d38 : decode prog_62_method_7_code 38 = .ok (.ireturn, 1) := by decide +kernel
theorem oo0_pn : plainName "com/example/lease/lease/cli/OptionValues" = true := by first | (simp [plainName, overriddenIn]; done) | decide +kernel
theorem oo0_ef (m : MethodId) (x0 : Addr) (x1 : Addr) : entryFrame m #[(.ref x0), (.ref x1)] 6 = mkF m 0 #[.val (.ref x0), .val (.ref x1), .unset, .unset, .unset, .unset] [] := by first | (simp [entryFrame, mkF, argsToLocals, Value.category]; done) | rfl
set_option maxRecDepth 65536 in
set_option maxHeartbeats 40000000 in
theorem rm_oo0 (l : Launch) (Z : State) (a0 : Array Value) (hw : ∀ d ∈ tables_1, d.before a0 Z = true) (ws : List Jvm.Cond) (a1 : Addr) (bs : List Int32) (ar : Addr) (ka : ClassId) (cz : Int32) (h0 : Heap) (n0 : Nat) (Z0 : n0 ≤ h0.size) (OL : Old Z n0 h0) (B1 : OwnStr Z h0 a1 bs) (VA : Arv Z h0 ar ka (.object "java/lang/String") (0 : Int32) [] .null) (SC : Sta Z Z.heap "java/lang/String" "COMPACT_STRINGS" "Z" (.int cz)) (hcz : ¬ cz = 0) :
    MetFree l (⟨"com/example/lease/lease/cli/OptionValues", "oneOf", "(Ljava/lang/String;[Ljava/lang/String;)Z"⟩ : MethodName) (head1 (Jvm.Cond.code (⟨"com/example/lease/lease/cli/OptionValues", "oneOf", "(Ljava/lang/String;[Ljava/lang/String;)Z"⟩ : MethodName) prog_62_method_7_code 6 (some .boolean) :: ws) ({ frames := 2, cells := 0, slots := 0, locals := 50 } : Room)) (fun a U => a = #[(.ref a1), (.ref ar)] ∧ Z.Warmed39 U.vm ∧ U.heap = h0) (fun _ _ _ _ _ => True) (fun _ U o U' => OwnEnd U (fun v h L => v = some (.int (if False then 1 else 0)) ∧ Fr n0 L ∧ h = h0) ({ frames := 2, cells := 0, slots := 0, locals := 50 } : Room).cells ({ frames := 2, cells := 0, slots := 0, locals := 50 } : Room).slots o U') := by
  refine MetFree.of_bodySF (plainFor_of_name oo0_pn) hisR ?_
  intro p e s m args below meth c s₁ Bd hml0 hP hK
  obtain ⟨rfl, hZ, hh⟩ := hP
  have hx := Bd.exec
  have hby := Bd.bytes
  have hml : c.maxLocals = 6 := hml0
  have hown : s.vm.findClass "com/example/lease/lease/cli/OptionValues" = some m.cls := findClass_of_methodNamed Bd.named
  have hnm := (name_of_methodNamed Bd.named Bd.method).1
  have X0 : Stand p l e ({ frames := 2, cells := 0, slots := 0, locals := 50 } : Room) s m #[(.ref a1), (.ref ar)] below meth c s₁ [] 0 0 := Stand.of_body Bd
  have e0 : s₁.heap = h0 := by rw [← hh, Bd.state]; rfl
  have N0 := Fr.nil n0
  have KP0 := Keep.refl h0 []
  refine own_go (Q := (OwnEnd s (fun v h L => v = some (.int (if False then 1 else 0)) ∧ Fr n0 L ∧ h = h0) ({ frames := 2, cells := 0, slots := 0, locals := 50 } : Room).cells ({ frames := 2, cells := 0, slots := 0, locals := 50 } : Room).slots)) ?_
  refine own_back (fun t k => castTop (oo0_ef m a1 ar) k) ?_
  show OwnGo p e below (s₁.setTop (mkF m 0 #[.val (.ref a1), .val (.ref ar), .unset, .unset, .unset, .unset] [])) _
  refine own_back (fun t k => XS.aloadN X0.here hx rfl (hb hby oo0_d0) rfl rfl k) ?_
  show OwnGo p e below (s₁.setTop (mkF m 1 #[.val (.ref a1), .val (.ref ar), .unset, .unset, .unset, .unset] [(.ref ar)])) _
  refine own_back (fun t k => XS.astoreN X0.here hx rfl (hb hby oo0_d1) rfl rfl (l' := #[.val (.ref a1), .val (.ref ar), .val (.ref ar), .unset, .unset, .unset]) rfl k) ?_
  show OwnGo p e below (s₁.setTop (mkF m 2 #[.val (.ref a1), .val (.ref ar), .val (.ref ar), .unset, .unset, .unset] [])) _
  refine own_back (fun t k => XS.aloadN X0.here hx rfl (hb hby oo0_d2) rfl rfl k) ?_
  show OwnGo p e below (s₁.setTop (mkF m 3 #[.val (.ref a1), .val (.ref ar), .val (.ref ar), .unset, .unset, .unset] [(.ref ar)])) _
  obtain ⟨c409, A409, q409, S409, M409, H409, U409⟩ := id VA
  refine own_back (fun t k => X0.arraylength hx (own_hat e0 A409.1) (State.isArrayOf_alike hZ.alike A409.2.1) (g := (mkF m 3 #[.val (.ref a1), .val (.ref ar), .val (.ref ar), .unset, .unset, .unset] [(.ref ar)])) rfl rfl (hb hby oo0_d3) t k) ?_
  rw [len_of S409 M409]
  show OwnGo p e below (s₁.setTop (mkF m 4 #[.val (.ref a1), .val (.ref ar), .val (.ref ar), .unset, .unset, .unset] [(.int (0 : Int32))])) _
  refine own_back (fun t k => XS.istoreN X0.here hx rfl (hb hby oo0_d4) rfl (l' := #[.val (.ref a1), .val (.ref ar), .val (.ref ar), .val (.int (0 : Int32)), .unset, .unset]) rfl k) ?_
  show OwnGo p e below (s₁.setTop (mkF m 5 #[.val (.ref a1), .val (.ref ar), .val (.ref ar), .val (.int (0 : Int32)), .unset, .unset] [])) _
  refine own_back (fun t k => XS.iconst X0.here hx rfl (hb hby oo0_d5) k) ?_
  show OwnGo p e below (s₁.setTop (mkF m 6 #[.val (.ref a1), .val (.ref ar), .val (.ref ar), .val (.int (0 : Int32)), .unset, .unset] [(.int (0 : Int32))])) _
  refine own_back (fun t k => XS.istore X0.here hx rfl (hb hby oo0_d6) rfl (l' := #[.val (.ref a1), .val (.ref ar), .val (.ref ar), .val (.int (0 : Int32)), .val (.int (0 : Int32)), .unset]) rfl k) ?_
  show OwnGo p e below (s₁.setTop (mkF m 8 #[.val (.ref a1), .val (.ref ar), .val (.ref ar), .val (.int (0 : Int32)), .val (.int (0 : Int32)), .unset] [])) _
  refine own_back (fun t k => XS.iload X0.here hx rfl (hb hby oo0_d8) rfl k) ?_
  show OwnGo p e below (s₁.setTop (mkF m 10 #[.val (.ref a1), .val (.ref ar), .val (.ref ar), .val (.int (0 : Int32)), .val (.int (0 : Int32)), .unset] [(.int (0 : Int32))])) _
  refine own_back (fun t k => XS.iloadN X0.here hx rfl (hb hby oo0_d10) rfl k) ?_
  show OwnGo p e below (s₁.setTop (mkF m 11 #[.val (.ref a1), .val (.ref ar), .val (.ref ar), .val (.int (0 : Int32)), .val (.int (0 : Int32)), .unset] [(.int (0 : Int32)), (.int (0 : Int32))])) _
  refine own_back (fun t k => XS.icmpYes X0.here hx rfl (pc0 := 11) (pc' := 37) rfl (hb hby oo0_d11) rfl (Jvm.Free.XT.ii_ge_t (by decide)) (by decide) (by decide) k) ?_
  show OwnGo p e below (s₁.setTop (mkF m 37 #[.val (.ref a1), .val (.ref ar), .val (.ref ar), .val (.int (0 : Int32)), .val (.int (0 : Int32)), .unset] [])) _
  refine own_back (fun t k => XS.iconst X0.here hx rfl (hb hby oo0_d37) k) ?_
  show OwnGo p e below (s₁.setTop (mkF m 38 #[.val (.ref a1), .val (.ref ar), .val (.ref ar), .val (.int (0 : Int32)), .val (.int (0 : Int32)), .unset] [(.int (0 : Int32))])) _
  refine own_retN X0 hx Bd.notSynchronized (t := .boolean) (z := (0 : Int32)) Bd.returns (by simp) rfl (hb hby oo0_d38) e0 (Nat.le_of_ble_eq_true rfl) (Nat.le_of_ble_eq_true rfl) ?_
  exact ⟨by simp [], N0, rfl⟩
theorem oo1_d0 : decode prog_62_method_7_code 0 = .ok (.aload_n 1, 1) := by decide +kernel
theorem oo1_d1 : decode prog_62_method_7_code 1 = .ok (.astore_n 2, 1) := by decide +kernel
theorem oo1_d2 : decode prog_62_method_7_code 2 = .ok (.aload_n 2, 1) := by decide +kernel
theorem oo1_d3 : decode prog_62_method_7_code 3 = .ok (.arraylength, 1) := by decide +kernel
theorem oo1_d4 : decode prog_62_method_7_code 4 = .ok (.istore_n 3, 1) := by decide +kernel
theorem oo1_d5 : decode prog_62_method_7_code 5 = .ok (.iconst 0, 1) := by decide +kernel
theorem oo1_d6 : decode prog_62_method_7_code 6 = .ok (.istore 4, 2) := by decide +kernel
theorem oo1_d8 : decode prog_62_method_7_code 8 = .ok (.iload 4, 2) := by decide +kernel
theorem oo1_d10 : decode prog_62_method_7_code 10 = .ok (.iload_n 3, 1) := by decide +kernel
theorem oo1_d11 : decode prog_62_method_7_code 11 = .ok (.if_icmp .ge 26, 3) := by decide +kernel
theorem oo1_d14 : decode prog_62_method_7_code 14 = .ok (.aload_n 2, 1) := by decide +kernel
theorem oo1_d15 : decode prog_62_method_7_code 15 = .ok (.iload 4, 2) := by decide +kernel
theorem oo1_d17 : decode prog_62_method_7_code 17 = .ok (.aaload, 1) := by decide +kernel
theorem oo1_d18 : decode prog_62_method_7_code 18 = .ok (.astore 5, 2) := by decide +kernel
theorem oo1_d20 : decode prog_62_method_7_code 20 = .ok (.aload 5, 2) := by decide +kernel
theorem oo1_d22 : decode prog_62_method_7_code 22 = .ok (.aload_n 0, 1) := by decide +kernel
theorem oo1_d23 : decode prog_62_method_7_code 23 = .ok (.invokevirtual 45, 3) := by decide +kernel
theorem oo1_d26 : decode prog_62_method_7_code 26 = .ok (.ifCond .eq 5, 3) := by decide +kernel
theorem oo1_d29 : decode prog_62_method_7_code 29 = .ok (.iconst 1, 1) := by decide +kernel
theorem oo1_d30 : decode prog_62_method_7_code 30 = .ok (.ireturn, 1) := by decide +kernel
theorem oo1_d31 : decode prog_62_method_7_code 31 = .ok (.iinc 4 1, 3) := by decide +kernel
theorem oo1_d34 : decode prog_62_method_7_code 34 = .ok (.goto (-26), 3) := by decide +kernel
theorem oo1_d37 : decode prog_62_method_7_code 37 = .ok (.iconst 0, 1) := by decide +kernel
theorem oo1_d38 : decode prog_62_method_7_code 38 = .ok (.ireturn, 1) := by decide +kernel
theorem oo1_pn : plainName "com/example/lease/lease/cli/OptionValues" = true := by first | (simp [plainName, overriddenIn]; done) | decide +kernel
theorem oo1_pd0 : parseMethodDescriptor "(Ljava/lang/Object;)Z" = some ⟨[(.object "java/lang/Object")], some .boolean⟩ := by decide +kernel
theorem oo1_ef (m : MethodId) (x0 : Addr) (x1 : Addr) : entryFrame m #[(.ref x0), (.ref x1)] 6 = mkF m 0 #[.val (.ref x0), .val (.ref x1), .unset, .unset, .unset, .unset] [] := by first | (simp [entryFrame, mkF, argsToLocals, Value.category]; done) | rfl
set_option maxRecDepth 65536 in
set_option maxHeartbeats 40000000 in
theorem rm_oo1 (l : Launch) (Z : State) (a0 : Array Value) (hw : ∀ d ∈ tables_1, d.before a0 Z = true) (ws : List Jvm.Cond) (a1 : Addr) (bs : List Int32) (ar : Addr) (ka : ClassId) (ad0 : Addr) (d0 : List Int32) (cz : Int32) (h0 : Heap) (n0 : Nat) (Z0 : n0 ≤ h0.size) (OL : Old Z n0 h0) (B1 : OwnStr Z h0 a1 bs) (VA : Arv Z h0 ar ka (.object "java/lang/String") (1 : Int32) [.ref ad0] .null) (D0 : OwnStr Z h0 ad0 d0) (SC : Sta Z Z.heap "java/lang/String" "COMPACT_STRINGS" "Z" (.int cz)) (hcz : ¬ cz = 0) :
    MetFree l (⟨"com/example/lease/lease/cli/OptionValues", "oneOf", "(Ljava/lang/String;[Ljava/lang/String;)Z"⟩ : MethodName) (head1 (Jvm.Cond.code (⟨"com/example/lease/lease/cli/OptionValues", "oneOf", "(Ljava/lang/String;[Ljava/lang/String;)Z"⟩ : MethodName) prog_62_method_7_code 6 (some .boolean) :: ws) ({ frames := 2, cells := 0, slots := 0, locals := 50 } : Room)) (fun a U => a = #[(.ref a1), (.ref ar)] ∧ Z.Warmed39 U.vm ∧ U.heap = h0) (fun _ _ _ _ _ => True) (fun _ U o U' => OwnEnd U (fun v h L => v = some (.int (if d0 = bs then 1 else 0)) ∧ Fr n0 L ∧ h = h0) ({ frames := 2, cells := 0, slots := 0, locals := 50 } : Room).cells ({ frames := 2, cells := 0, slots := 0, locals := 50 } : Room).slots o U') := by
  refine MetFree.of_bodySF (plainFor_of_name oo1_pn) hisR ?_
  intro p e s m args below meth c s₁ Bd hml0 hP hK
  obtain ⟨rfl, hZ, hh⟩ := hP
  have hx := Bd.exec
  have hby := Bd.bytes
  have hml : c.maxLocals = 6 := hml0
  have hown : s.vm.findClass "com/example/lease/lease/cli/OptionValues" = some m.cls := findClass_of_methodNamed Bd.named
  have hnm := (name_of_methodNamed Bd.named Bd.method).1
  have X0 : Stand p l e ({ frames := 2, cells := 0, slots := 0, locals := 50 } : Room) s m #[(.ref a1), (.ref ar)] below meth c s₁ [] 0 0 := Stand.of_body Bd
  have e0 : s₁.heap = h0 := by rw [← hh, Bd.state]; rfl
  have N0 := Fr.nil n0
  have KP0 := Keep.refl h0 []
  refine own_go (Q := (OwnEnd s (fun v h L => v = some (.int (if d0 = bs then 1 else 0)) ∧ Fr n0 L ∧ h = h0) ({ frames := 2, cells := 0, slots := 0, locals := 50 } : Room).cells ({ frames := 2, cells := 0, slots := 0, locals := 50 } : Room).slots)) ?_
  refine own_back (fun t k => castTop (oo1_ef m a1 ar) k) ?_
  show OwnGo p e below (s₁.setTop (mkF m 0 #[.val (.ref a1), .val (.ref ar), .unset, .unset, .unset, .unset] [])) _
  refine own_back (fun t k => XS.aloadN X0.here hx rfl (hb hby oo1_d0) rfl rfl k) ?_
  show OwnGo p e below (s₁.setTop (mkF m 1 #[.val (.ref a1), .val (.ref ar), .unset, .unset, .unset, .unset] [(.ref ar)])) _
  refine own_back (fun t k => XS.astoreN X0.here hx rfl (hb hby oo1_d1) rfl rfl (l' := #[.val (.ref a1), .val (.ref ar), .val (.ref ar), .unset, .unset, .unset]) rfl k) ?_
  show OwnGo p e below (s₁.setTop (mkF m 2 #[.val (.ref a1), .val (.ref ar), .val (.ref ar), .unset, .unset, .unset] [])) _
  refine own_back (fun t k => XS.aloadN X0.here hx rfl (hb hby oo1_d2) rfl rfl k) ?_
  show OwnGo p e below (s₁.setTop (mkF m 3 #[.val (.ref a1), .val (.ref ar), .val (.ref ar), .unset, .unset, .unset] [(.ref ar)])) _
  obtain ⟨c410, A410, q410, S410, M410, H410, U410⟩ := id VA
  refine own_back (fun t k => X0.arraylength hx (own_hat e0 A410.1) (State.isArrayOf_alike hZ.alike A410.2.1) (g := (mkF m 3 #[.val (.ref a1), .val (.ref ar), .val (.ref ar), .unset, .unset, .unset] [(.ref ar)])) rfl rfl (hb hby oo1_d3) t k) ?_
  rw [len_of S410 M410]
  show OwnGo p e below (s₁.setTop (mkF m 4 #[.val (.ref a1), .val (.ref ar), .val (.ref ar), .unset, .unset, .unset] [(.int (1 : Int32))])) _
  refine own_back (fun t k => XS.istoreN X0.here hx rfl (hb hby oo1_d4) rfl (l' := #[.val (.ref a1), .val (.ref ar), .val (.ref ar), .val (.int (1 : Int32)), .unset, .unset]) rfl k) ?_
  show OwnGo p e below (s₁.setTop (mkF m 5 #[.val (.ref a1), .val (.ref ar), .val (.ref ar), .val (.int (1 : Int32)), .unset, .unset] [])) _
  refine own_back (fun t k => XS.iconst X0.here hx rfl (hb hby oo1_d5) k) ?_
  show OwnGo p e below (s₁.setTop (mkF m 6 #[.val (.ref a1), .val (.ref ar), .val (.ref ar), .val (.int (1 : Int32)), .unset, .unset] [(.int (0 : Int32))])) _
  refine own_back (fun t k => XS.istore X0.here hx rfl (hb hby oo1_d6) rfl (l' := #[.val (.ref a1), .val (.ref ar), .val (.ref ar), .val (.int (1 : Int32)), .val (.int (0 : Int32)), .unset]) rfl k) ?_
  show OwnGo p e below (s₁.setTop (mkF m 8 #[.val (.ref a1), .val (.ref ar), .val (.ref ar), .val (.int (1 : Int32)), .val (.int (0 : Int32)), .unset] [])) _
  refine own_back (fun t k => XS.iload X0.here hx rfl (hb hby oo1_d8) rfl k) ?_
  show OwnGo p e below (s₁.setTop (mkF m 10 #[.val (.ref a1), .val (.ref ar), .val (.ref ar), .val (.int (1 : Int32)), .val (.int (0 : Int32)), .unset] [(.int (0 : Int32))])) _
  refine own_back (fun t k => XS.iloadN X0.here hx rfl (hb hby oo1_d10) rfl k) ?_
  show OwnGo p e below (s₁.setTop (mkF m 11 #[.val (.ref a1), .val (.ref ar), .val (.ref ar), .val (.int (1 : Int32)), .val (.int (0 : Int32)), .unset] [(.int (1 : Int32)), (.int (0 : Int32))])) _
  refine own_back (fun t k => XS.icmpNo X0.here hx rfl (hb hby oo1_d11) rfl (Jvm.Free.XT.ii_ge_f (by decide)) k) ?_
  show OwnGo p e below (s₁.setTop (mkF m 14 #[.val (.ref a1), .val (.ref ar), .val (.ref ar), .val (.int (1 : Int32)), .val (.int (0 : Int32)), .unset] [])) _
  refine own_back (fun t k => XS.aloadN X0.here hx rfl (hb hby oo1_d14) rfl rfl k) ?_
  show OwnGo p e below (s₁.setTop (mkF m 15 #[.val (.ref a1), .val (.ref ar), .val (.ref ar), .val (.int (1 : Int32)), .val (.int (0 : Int32)), .unset] [(.ref ar)])) _
  refine own_back (fun t k => XS.iload X0.here hx rfl (hb hby oo1_d15) rfl k) ?_
  show OwnGo p e below (s₁.setTop (mkF m 17 #[.val (.ref a1), .val (.ref ar), .val (.ref ar), .val (.int (1 : Int32)), .val (.int (0 : Int32)), .unset] [(.int (0 : Int32)), (.ref ar)])) _
  obtain ⟨c411, A411, q411, S411, M411, H411, U411⟩ := id VA
  have ib412 : ¬ ((0 : Int32) < 0 ∨ c411.slots.size ≤ ((0 : Int32)).toNatClampNeg) := (inb_of S411 ⟨by decide, by decide⟩)
  refine own_back (fun t k => X0.aaload hx (j := (0 : Int32)) (v := (.ref ad0)) (own_hat e0 A411.1) (State.isArrayOf_alike hZ.alike A411.2.1) rfl A411.2.2 ib412 (H411.at ib412 rfl) (g := (mkF m 17 #[.val (.ref a1), .val (.ref ar), .val (.ref ar), .val (.int (1 : Int32)), .val (.int (0 : Int32)), .unset] [(.int (0 : Int32)), (.ref ar)])) rfl rfl (hb hby oo1_d17) t k) ?_
  show OwnGo p e below (s₁.setTop (mkF m 18 #[.val (.ref a1), .val (.ref ar), .val (.ref ar), .val (.int (1 : Int32)), .val (.int (0 : Int32)), .unset] [(.ref ad0)])) _
  refine own_back (fun t k => XS.astore X0.here hx rfl (hb hby oo1_d18) rfl rfl (l' := #[.val (.ref a1), .val (.ref ar), .val (.ref ar), .val (.int (1 : Int32)), .val (.int (0 : Int32)), .val (.ref ad0)]) rfl k) ?_
  show OwnGo p e below (s₁.setTop (mkF m 20 #[.val (.ref a1), .val (.ref ar), .val (.ref ar), .val (.int (1 : Int32)), .val (.int (0 : Int32)), .val (.ref ad0)] [])) _
  refine own_back (fun t k => XS.aload X0.here hx rfl (hb hby oo1_d20) rfl rfl k) ?_
  show OwnGo p e below (s₁.setTop (mkF m 22 #[.val (.ref a1), .val (.ref ar), .val (.ref ar), .val (.int (1 : Int32)), .val (.int (0 : Int32)), .val (.ref ad0)] [(.ref ad0)])) _
  refine own_back (fun t k => XS.aloadN X0.here hx rfl (hb hby oo1_d22) rfl rfl k) ?_
  show OwnGo p e below (s₁.setTop (mkF m 23 #[.val (.ref a1), .val (.ref ar), .val (.ref ar), .val (.int (1 : Int32)), .val (.int (0 : Int32)), .val (.ref ad0)] [(.ref a1), (.ref ad0)])) _
  by_cases he0 : d0 = bs
  · obtain ⟨cq413, kq413, q413a, q413b, q413c⟩ := isOf hZ e0 D0.exa
    obtain ⟨_, _, ⟨T413, L413, k413, n413⟩, -, X413, ⟨Lc413, hQ413, l413, y413, z413⟩, st413⟩ := X0.virtualBack hx (y := (⟨"java/lang/String", "equals", "(Ljava/lang/Object;)Z"⟩ : MethodName)) (z := (⟨"java/lang/String", "equals", "(Ljava/lang/Object;)Z"⟩ : MethodName)) hown (mvT hZ (hw _ (List.mem_of_getElem? (i := 39) rfl))) (mvT hZ (hw _ (List.mem_of_getElem? (i := 40) rfl))) (notFace_of_selects (args := #[]) (mvT hZ (hw _ (List.mem_of_getElem? (i := 42) rfl)))) (mvT hZ (hw _ (List.mem_of_getElem? (i := 42) rfl))) (mvT hZ (hw _ (List.mem_of_getElem? (i := 41) rfl))) (by decide) (own_backN (W := 0) (rm_seq l Z a0 hw [] ad0 a1 d0 bs cz h0 n0 Z0 OL D0 B1 SC hcz) hZ (hw _ (List.mem_of_getElem? (i := 43) rfl)) (hw _ (List.mem_of_getElem? (i := 6) rfl)) (by decide) (by decide)) q413a q413c (g := (mkF m 23 #[.val (.ref a1), .val (.ref ar), .val (.ref ar), .val (.int (1 : Int32)), .val (.int (0 : Int32)), .val (.ref ad0)] [(.ref a1), (.ref ad0)])) rfl (by rw [hml]; rfl) (Steps.refl _) (argsL := [(.ref a1)]) (rest := []) (lenOf oo1_pd0 rfl) rfl (by show 2 * 0 + _ ≤ _; exact Nat.le_of_eq rfl) (hb hby oo1_d23) (fun _ _ => ⟨rfl, e0, Nat.le_of_ble_eq_true rfl, Nat.le_of_ble_eq_true rfl⟩)
    dsimp only [Pt.U, Pt.locs, Pt.cells, Pt.slots] at X413 l413 y413 z413 st413 hQ413
    subst l413 y413 z413
    rw [if_pos he0] at hQ413
    obtain ⟨rfl, N413q, hh413⟩ := hQ413
    refine own_seq st413 ?_
    have N413 := Fr.app N0 N413q
    show OwnGo p e below (T413.setTop (mkF m 26 #[.val (.ref a1), .val (.ref ar), .val (.ref ar), .val (.int (1 : Int32)), .val (.int (0 : Int32)), .val (.ref ad0)] [(.int (1 : Int32))])) _
    refine own_back (fun t k => XS.ifNo X413.here hx rfl (hb hby oo1_d26) rfl (Jvm.Free.XT.i0_eq_f (by decide)) k) ?_
    show OwnGo p e below (T413.setTop (mkF m 29 #[.val (.ref a1), .val (.ref ar), .val (.ref ar), .val (.int (1 : Int32)), .val (.int (0 : Int32)), .val (.ref ad0)] [])) _
    refine own_back (fun t k => XS.iconst X413.here hx rfl (hb hby oo1_d29) k) ?_
    show OwnGo p e below (T413.setTop (mkF m 30 #[.val (.ref a1), .val (.ref ar), .val (.ref ar), .val (.int (1 : Int32)), .val (.int (0 : Int32)), .val (.ref ad0)] [(.int (1 : Int32))])) _
    refine own_retN X413 hx Bd.notSynchronized (t := .boolean) (z := (1 : Int32)) Bd.returns (by simp) rfl (hb hby oo1_d30) hh413 (Nat.le_of_ble_eq_true rfl) (Nat.le_of_ble_eq_true rfl) ?_
    exact ⟨by simp [he0], N413, rfl⟩
  · obtain ⟨cq414, kq414, q414a, q414b, q414c⟩ := isOf hZ e0 D0.exa
    obtain ⟨_, _, ⟨T414, L414, k414, n414⟩, -, X414, ⟨Lc414, hQ414, l414, y414, z414⟩, st414⟩ := X0.virtualBack hx (y := (⟨"java/lang/String", "equals", "(Ljava/lang/Object;)Z"⟩ : MethodName)) (z := (⟨"java/lang/String", "equals", "(Ljava/lang/Object;)Z"⟩ : MethodName)) hown (mvT hZ (hw _ (List.mem_of_getElem? (i := 39) rfl))) (mvT hZ (hw _ (List.mem_of_getElem? (i := 40) rfl))) (notFace_of_selects (args := #[]) (mvT hZ (hw _ (List.mem_of_getElem? (i := 42) rfl)))) (mvT hZ (hw _ (List.mem_of_getElem? (i := 42) rfl))) (mvT hZ (hw _ (List.mem_of_getElem? (i := 41) rfl))) (by decide) (own_backN (W := 0) (rm_seq l Z a0 hw [] ad0 a1 d0 bs cz h0 n0 Z0 OL D0 B1 SC hcz) hZ (hw _ (List.mem_of_getElem? (i := 43) rfl)) (hw _ (List.mem_of_getElem? (i := 6) rfl)) (by decide) (by decide)) q414a q414c (g := (mkF m 23 #[.val (.ref a1), .val (.ref ar), .val (.ref ar), .val (.int (1 : Int32)), .val (.int (0 : Int32)), .val (.ref ad0)] [(.ref a1), (.ref ad0)])) rfl (by rw [hml]; rfl) (Steps.refl _) (argsL := [(.ref a1)]) (rest := []) (lenOf oo1_pd0 rfl) rfl (by show 2 * 0 + _ ≤ _; exact Nat.le_of_eq rfl) (hb hby oo1_d23) (fun _ _ => ⟨rfl, e0, Nat.le_of_ble_eq_true rfl, Nat.le_of_ble_eq_true rfl⟩)
    dsimp only [Pt.U, Pt.locs, Pt.cells, Pt.slots] at X414 l414 y414 z414 st414 hQ414
    subst l414 y414 z414
    rw [if_neg he0] at hQ414
    obtain ⟨rfl, N414q, hh414⟩ := hQ414
    refine own_seq st414 ?_
    have N414 := Fr.app N0 N414q
    show OwnGo p e below (T414.setTop (mkF m 26 #[.val (.ref a1), .val (.ref ar), .val (.ref ar), .val (.int (1 : Int32)), .val (.int (0 : Int32)), .val (.ref ad0)] [(.int (0 : Int32))])) _
    refine own_back (fun t k => XS.ifYes X414.here hx rfl (pc0 := 26) (pc' := 31) rfl (hb hby oo1_d26) rfl (Jvm.Free.XT.i0_eq_t (by decide)) (by decide) (by decide) k) ?_
    show OwnGo p e below (T414.setTop (mkF m 31 #[.val (.ref a1), .val (.ref ar), .val (.ref ar), .val (.int (1 : Int32)), .val (.int (0 : Int32)), .val (.ref ad0)] [])) _
    refine own_back (fun t k => XS.iinc X414.here hx rfl (hb hby oo1_d31) rfl (l' := #[.val (.ref a1), .val (.ref ar), .val (.ref ar), .val (.int (1 : Int32)), .val (.int (1 : Int32)), .val (.ref ad0)]) rfl k) ?_
    show OwnGo p e below (T414.setTop (mkF m 34 #[.val (.ref a1), .val (.ref ar), .val (.ref ar), .val (.int (1 : Int32)), .val (.int (1 : Int32)), .val (.ref ad0)] [])) _
    refine own_back (fun t k => XS.goto X414.here hx rfl (pc0 := 34) (pc' := 8) rfl (hb hby oo1_d34) (by decide) (by decide) k) ?_
    show OwnGo p e below (T414.setTop (mkF m 8 #[.val (.ref a1), .val (.ref ar), .val (.ref ar), .val (.int (1 : Int32)), .val (.int (1 : Int32)), .val (.ref ad0)] [])) _
    refine own_back (fun t k => XS.iload X414.here hx rfl (hb hby oo1_d8) rfl k) ?_
    show OwnGo p e below (T414.setTop (mkF m 10 #[.val (.ref a1), .val (.ref ar), .val (.ref ar), .val (.int (1 : Int32)), .val (.int (1 : Int32)), .val (.ref ad0)] [(.int (1 : Int32))])) _
    refine own_back (fun t k => XS.iloadN X414.here hx rfl (hb hby oo1_d10) rfl k) ?_
    show OwnGo p e below (T414.setTop (mkF m 11 #[.val (.ref a1), .val (.ref ar), .val (.ref ar), .val (.int (1 : Int32)), .val (.int (1 : Int32)), .val (.ref ad0)] [(.int (1 : Int32)), (.int (1 : Int32))])) _
    refine own_back (fun t k => XS.icmpYes X414.here hx rfl (pc0 := 11) (pc' := 37) rfl (hb hby oo1_d11) rfl (Jvm.Free.XT.ii_ge_t (by decide)) (by decide) (by decide) k) ?_
    show OwnGo p e below (T414.setTop (mkF m 37 #[.val (.ref a1), .val (.ref ar), .val (.ref ar), .val (.int (1 : Int32)), .val (.int (1 : Int32)), .val (.ref ad0)] [])) _
    refine own_back (fun t k => XS.iconst X414.here hx rfl (hb hby oo1_d37) k) ?_
    show OwnGo p e below (T414.setTop (mkF m 38 #[.val (.ref a1), .val (.ref ar), .val (.ref ar), .val (.int (1 : Int32)), .val (.int (1 : Int32)), .val (.ref ad0)] [(.int (0 : Int32))])) _
    refine own_retN X414 hx Bd.notSynchronized (t := .boolean) (z := (0 : Int32)) Bd.returns (by simp) rfl (hb hby oo1_d38) hh414 (Nat.le_of_ble_eq_true rfl) (Nat.le_of_ble_eq_true rfl) ?_
    exact ⟨by simp [he0], N414, rfl⟩
theorem oo2_d0 : decode prog_62_method_7_code 0 = .ok (.aload_n 1, 1) := by decide +kernel
theorem oo2_d1 : decode prog_62_method_7_code 1 = .ok (.astore_n 2, 1) := by decide +kernel
theorem oo2_d2 : decode prog_62_method_7_code 2 = .ok (.aload_n 2, 1) := by decide +kernel
theorem oo2_d3 : decode prog_62_method_7_code 3 = .ok (.arraylength, 1) := by decide +kernel
theorem oo2_d4 : decode prog_62_method_7_code 4 = .ok (.istore_n 3, 1) := by decide +kernel
theorem oo2_d5 : decode prog_62_method_7_code 5 = .ok (.iconst 0, 1) := by decide +kernel
theorem oo2_d6 : decode prog_62_method_7_code 6 = .ok (.istore 4, 2) := by decide +kernel
theorem oo2_d8 : decode prog_62_method_7_code 8 = .ok (.iload 4, 2) := by decide +kernel
theorem oo2_d10 : decode prog_62_method_7_code 10 = .ok (.iload_n 3, 1) := by decide +kernel
theorem oo2_d11 : decode prog_62_method_7_code 11 = .ok (.if_icmp .ge 26, 3) := by decide +kernel
theorem oo2_d14 : decode prog_62_method_7_code 14 = .ok (.aload_n 2, 1) := by decide +kernel
theorem oo2_d15 : decode prog_62_method_7_code 15 = .ok (.iload 4, 2) := by decide +kernel
theorem oo2_d17 : decode prog_62_method_7_code 17 = .ok (.aaload, 1) := by decide +kernel
theorem oo2_d18 : decode prog_62_method_7_code 18 = .ok (.astore 5, 2) := by decide +kernel
theorem oo2_d20 : decode prog_62_method_7_code 20 = .ok (.aload 5, 2) := by decide +kernel
theorem oo2_d22 : decode prog_62_method_7_code 22 = .ok (.aload_n 0, 1) := by decide +kernel
theorem oo2_d23 : decode prog_62_method_7_code 23 = .ok (.invokevirtual 45, 3) := by decide +kernel
theorem oo2_d26 : decode prog_62_method_7_code 26 = .ok (.ifCond .eq 5, 3) := by decide +kernel
theorem oo2_d29 : decode prog_62_method_7_code 29 = .ok (.iconst 1, 1) := by decide +kernel
theorem oo2_d30 : decode prog_62_method_7_code 30 = .ok (.ireturn, 1) := by decide +kernel
theorem oo2_d31 : decode prog_62_method_7_code 31 = .ok (.iinc 4 1, 3) := by decide +kernel
theorem oo2_d34 : decode prog_62_method_7_code 34 = .ok (.goto (-26), 3) := by decide +kernel
theorem oo2_d37 : decode prog_62_method_7_code 37 = .ok (.iconst 0, 1) := by decide +kernel
theorem oo2_d38 : decode prog_62_method_7_code 38 = .ok (.ireturn, 1) := by decide +kernel
theorem oo2_pn : plainName "com/example/lease/lease/cli/OptionValues" = true := by first | (simp [plainName, overriddenIn]; done) | decide +kernel
theorem oo2_pd0 : parseMethodDescriptor "(Ljava/lang/Object;)Z" = some ⟨[(.object "java/lang/Object")], some .boolean⟩ := by decide +kernel
theorem oo2_ef (m : MethodId) (x0 : Addr) (x1 : Addr) : entryFrame m #[(.ref x0), (.ref x1)] 6 = mkF m 0 #[.val (.ref x0), .val (.ref x1), .unset, .unset, .unset, .unset] [] := by first | (simp [entryFrame, mkF, argsToLocals, Value.category]; done) | rfl
set_option maxRecDepth 65536 in
set_option maxHeartbeats 40000000 in
theorem rm_oo2 (l : Launch) (Z : State) (a0 : Array Value) (hw : ∀ d ∈ tables_1, d.before a0 Z = true) (ws : List Jvm.Cond) (a1 : Addr) (bs : List Int32) (ar : Addr) (ka : ClassId) (ad0 : Addr) (ad1 : Addr) (d0 : List Int32) (d1 : List Int32) (cz : Int32) (h0 : Heap) (n0 : Nat) (Z0 : n0 ≤ h0.size) (OL : Old Z n0 h0) (B1 : OwnStr Z h0 a1 bs) (VA : Arv Z h0 ar ka (.object "java/lang/String") (2 : Int32) [.ref ad0, .ref ad1] .null) (D0 : OwnStr Z h0 ad0 d0) (D1 : OwnStr Z h0 ad1 d1) (SC : Sta Z Z.heap "java/lang/String" "COMPACT_STRINGS" "Z" (.int cz)) (hcz : ¬ cz = 0) :
    MetFree l (⟨"com/example/lease/lease/cli/OptionValues", "oneOf", "(Ljava/lang/String;[Ljava/lang/String;)Z"⟩ : MethodName) (head1 (Jvm.Cond.code (⟨"com/example/lease/lease/cli/OptionValues", "oneOf", "(Ljava/lang/String;[Ljava/lang/String;)Z"⟩ : MethodName) prog_62_method_7_code 6 (some .boolean) :: ws) ({ frames := 2, cells := 0, slots := 0, locals := 50 } : Room)) (fun a U => a = #[(.ref a1), (.ref ar)] ∧ Z.Warmed39 U.vm ∧ U.heap = h0) (fun _ _ _ _ _ => True) (fun _ U o U' => OwnEnd U (fun v h L => v = some (.int (if d0 = bs ∨ d1 = bs then 1 else 0)) ∧ Fr n0 L ∧ h = h0) ({ frames := 2, cells := 0, slots := 0, locals := 50 } : Room).cells ({ frames := 2, cells := 0, slots := 0, locals := 50 } : Room).slots o U') := by
  refine MetFree.of_bodySF (plainFor_of_name oo2_pn) hisR ?_
  intro p e s m args below meth c s₁ Bd hml0 hP hK
  obtain ⟨rfl, hZ, hh⟩ := hP
  have hx := Bd.exec
  have hby := Bd.bytes
  have hml : c.maxLocals = 6 := hml0
  have hown : s.vm.findClass "com/example/lease/lease/cli/OptionValues" = some m.cls := findClass_of_methodNamed Bd.named
  have hnm := (name_of_methodNamed Bd.named Bd.method).1
  have X0 : Stand p l e ({ frames := 2, cells := 0, slots := 0, locals := 50 } : Room) s m #[(.ref a1), (.ref ar)] below meth c s₁ [] 0 0 := Stand.of_body Bd
  have e0 : s₁.heap = h0 := by rw [← hh, Bd.state]; rfl
  have N0 := Fr.nil n0
  have KP0 := Keep.refl h0 []
  refine own_go (Q := (OwnEnd s (fun v h L => v = some (.int (if d0 = bs ∨ d1 = bs then 1 else 0)) ∧ Fr n0 L ∧ h = h0) ({ frames := 2, cells := 0, slots := 0, locals := 50 } : Room).cells ({ frames := 2, cells := 0, slots := 0, locals := 50 } : Room).slots)) ?_
  refine own_back (fun t k => castTop (oo2_ef m a1 ar) k) ?_
  show OwnGo p e below (s₁.setTop (mkF m 0 #[.val (.ref a1), .val (.ref ar), .unset, .unset, .unset, .unset] [])) _
  refine own_back (fun t k => XS.aloadN X0.here hx rfl (hb hby oo2_d0) rfl rfl k) ?_
  show OwnGo p e below (s₁.setTop (mkF m 1 #[.val (.ref a1), .val (.ref ar), .unset, .unset, .unset, .unset] [(.ref ar)])) _
  refine own_back (fun t k => XS.astoreN X0.here hx rfl (hb hby oo2_d1) rfl rfl (l' := #[.val (.ref a1), .val (.ref ar), .val (.ref ar), .unset, .unset, .unset]) rfl k) ?_
  show OwnGo p e below (s₁.setTop (mkF m 2 #[.val (.ref a1), .val (.ref ar), .val (.ref ar), .unset, .unset, .unset] [])) _
  refine own_back (fun t k => XS.aloadN X0.here hx rfl (hb hby oo2_d2) rfl rfl k) ?_
  show OwnGo p e below (s₁.setTop (mkF m 3 #[.val (.ref a1), .val (.ref ar), .val (.ref ar), .unset, .unset, .unset] [(.ref ar)])) _
  obtain ⟨c415, A415, q415, S415, M415, H415, U415⟩ := id VA
  refine own_back (fun t k => X0.arraylength hx (own_hat e0 A415.1) (State.isArrayOf_alike hZ.alike A415.2.1) (g := (mkF m 3 #[.val (.ref a1), .val (.ref ar), .val (.ref ar), .unset, .unset, .unset] [(.ref ar)])) rfl rfl (hb hby oo2_d3) t k) ?_
  rw [len_of S415 M415]
  show OwnGo p e below (s₁.setTop (mkF m 4 #[.val (.ref a1), .val (.ref ar), .val (.ref ar), .unset, .unset, .unset] [(.int (2 : Int32))])) _
  refine own_back (fun t k => XS.istoreN X0.here hx rfl (hb hby oo2_d4) rfl (l' := #[.val (.ref a1), .val (.ref ar), .val (.ref ar), .val (.int (2 : Int32)), .unset, .unset]) rfl k) ?_
  show OwnGo p e below (s₁.setTop (mkF m 5 #[.val (.ref a1), .val (.ref ar), .val (.ref ar), .val (.int (2 : Int32)), .unset, .unset] [])) _
  refine own_back (fun t k => XS.iconst X0.here hx rfl (hb hby oo2_d5) k) ?_
  show OwnGo p e below (s₁.setTop (mkF m 6 #[.val (.ref a1), .val (.ref ar), .val (.ref ar), .val (.int (2 : Int32)), .unset, .unset] [(.int (0 : Int32))])) _
  refine own_back (fun t k => XS.istore X0.here hx rfl (hb hby oo2_d6) rfl (l' := #[.val (.ref a1), .val (.ref ar), .val (.ref ar), .val (.int (2 : Int32)), .val (.int (0 : Int32)), .unset]) rfl k) ?_
  show OwnGo p e below (s₁.setTop (mkF m 8 #[.val (.ref a1), .val (.ref ar), .val (.ref ar), .val (.int (2 : Int32)), .val (.int (0 : Int32)), .unset] [])) _
  refine own_back (fun t k => XS.iload X0.here hx rfl (hb hby oo2_d8) rfl k) ?_
  show OwnGo p e below (s₁.setTop (mkF m 10 #[.val (.ref a1), .val (.ref ar), .val (.ref ar), .val (.int (2 : Int32)), .val (.int (0 : Int32)), .unset] [(.int (0 : Int32))])) _
  refine own_back (fun t k => XS.iloadN X0.here hx rfl (hb hby oo2_d10) rfl k) ?_
  show OwnGo p e below (s₁.setTop (mkF m 11 #[.val (.ref a1), .val (.ref ar), .val (.ref ar), .val (.int (2 : Int32)), .val (.int (0 : Int32)), .unset] [(.int (2 : Int32)), (.int (0 : Int32))])) _
  refine own_back (fun t k => XS.icmpNo X0.here hx rfl (hb hby oo2_d11) rfl (Jvm.Free.XT.ii_ge_f (by decide)) k) ?_
  show OwnGo p e below (s₁.setTop (mkF m 14 #[.val (.ref a1), .val (.ref ar), .val (.ref ar), .val (.int (2 : Int32)), .val (.int (0 : Int32)), .unset] [])) _
  refine own_back (fun t k => XS.aloadN X0.here hx rfl (hb hby oo2_d14) rfl rfl k) ?_
  show OwnGo p e below (s₁.setTop (mkF m 15 #[.val (.ref a1), .val (.ref ar), .val (.ref ar), .val (.int (2 : Int32)), .val (.int (0 : Int32)), .unset] [(.ref ar)])) _
  refine own_back (fun t k => XS.iload X0.here hx rfl (hb hby oo2_d15) rfl k) ?_
  show OwnGo p e below (s₁.setTop (mkF m 17 #[.val (.ref a1), .val (.ref ar), .val (.ref ar), .val (.int (2 : Int32)), .val (.int (0 : Int32)), .unset] [(.int (0 : Int32)), (.ref ar)])) _
  obtain ⟨c416, A416, q416, S416, M416, H416, U416⟩ := id VA
  have ib417 : ¬ ((0 : Int32) < 0 ∨ c416.slots.size ≤ ((0 : Int32)).toNatClampNeg) := (inb_of S416 ⟨by decide, by decide⟩)
  refine own_back (fun t k => X0.aaload hx (j := (0 : Int32)) (v := (.ref ad0)) (own_hat e0 A416.1) (State.isArrayOf_alike hZ.alike A416.2.1) rfl A416.2.2 ib417 (H416.at ib417 rfl) (g := (mkF m 17 #[.val (.ref a1), .val (.ref ar), .val (.ref ar), .val (.int (2 : Int32)), .val (.int (0 : Int32)), .unset] [(.int (0 : Int32)), (.ref ar)])) rfl rfl (hb hby oo2_d17) t k) ?_
  show OwnGo p e below (s₁.setTop (mkF m 18 #[.val (.ref a1), .val (.ref ar), .val (.ref ar), .val (.int (2 : Int32)), .val (.int (0 : Int32)), .unset] [(.ref ad0)])) _
  refine own_back (fun t k => XS.astore X0.here hx rfl (hb hby oo2_d18) rfl rfl (l' := #[.val (.ref a1), .val (.ref ar), .val (.ref ar), .val (.int (2 : Int32)), .val (.int (0 : Int32)), .val (.ref ad0)]) rfl k) ?_
  show OwnGo p e below (s₁.setTop (mkF m 20 #[.val (.ref a1), .val (.ref ar), .val (.ref ar), .val (.int (2 : Int32)), .val (.int (0 : Int32)), .val (.ref ad0)] [])) _
  refine own_back (fun t k => XS.aload X0.here hx rfl (hb hby oo2_d20) rfl rfl k) ?_
  show OwnGo p e below (s₁.setTop (mkF m 22 #[.val (.ref a1), .val (.ref ar), .val (.ref ar), .val (.int (2 : Int32)), .val (.int (0 : Int32)), .val (.ref ad0)] [(.ref ad0)])) _
  refine own_back (fun t k => XS.aloadN X0.here hx rfl (hb hby oo2_d22) rfl rfl k) ?_
  show OwnGo p e below (s₁.setTop (mkF m 23 #[.val (.ref a1), .val (.ref ar), .val (.ref ar), .val (.int (2 : Int32)), .val (.int (0 : Int32)), .val (.ref ad0)] [(.ref a1), (.ref ad0)])) _
  by_cases he0 : d0 = bs
  · obtain ⟨cq418, kq418, q418a, q418b, q418c⟩ := isOf hZ e0 D0.exa
    obtain ⟨_, _, ⟨T418, L418, k418, n418⟩, -, X418, ⟨Lc418, hQ418, l418, y418, z418⟩, st418⟩ := X0.virtualBack hx (y := (⟨"java/lang/String", "equals", "(Ljava/lang/Object;)Z"⟩ : MethodName)) (z := (⟨"java/lang/String", "equals", "(Ljava/lang/Object;)Z"⟩ : MethodName)) hown (mvT hZ (hw _ (List.mem_of_getElem? (i := 39) rfl))) (mvT hZ (hw _ (List.mem_of_getElem? (i := 40) rfl))) (notFace_of_selects (args := #[]) (mvT hZ (hw _ (List.mem_of_getElem? (i := 42) rfl)))) (mvT hZ (hw _ (List.mem_of_getElem? (i := 42) rfl))) (mvT hZ (hw _ (List.mem_of_getElem? (i := 41) rfl))) (by decide) (own_backN (W := 0) (rm_seq l Z a0 hw [] ad0 a1 d0 bs cz h0 n0 Z0 OL D0 B1 SC hcz) hZ (hw _ (List.mem_of_getElem? (i := 43) rfl)) (hw _ (List.mem_of_getElem? (i := 6) rfl)) (by decide) (by decide)) q418a q418c (g := (mkF m 23 #[.val (.ref a1), .val (.ref ar), .val (.ref ar), .val (.int (2 : Int32)), .val (.int (0 : Int32)), .val (.ref ad0)] [(.ref a1), (.ref ad0)])) rfl (by rw [hml]; rfl) (Steps.refl _) (argsL := [(.ref a1)]) (rest := []) (lenOf oo2_pd0 rfl) rfl (by show 2 * 0 + _ ≤ _; exact Nat.le_of_eq rfl) (hb hby oo2_d23) (fun _ _ => ⟨rfl, e0, Nat.le_of_ble_eq_true rfl, Nat.le_of_ble_eq_true rfl⟩)
    dsimp only [Pt.U, Pt.locs, Pt.cells, Pt.slots] at X418 l418 y418 z418 st418 hQ418
    subst l418 y418 z418
    rw [if_pos he0] at hQ418
    obtain ⟨rfl, N418q, hh418⟩ := hQ418
    refine own_seq st418 ?_
    have N418 := Fr.app N0 N418q
    show OwnGo p e below (T418.setTop (mkF m 26 #[.val (.ref a1), .val (.ref ar), .val (.ref ar), .val (.int (2 : Int32)), .val (.int (0 : Int32)), .val (.ref ad0)] [(.int (1 : Int32))])) _
    refine own_back (fun t k => XS.ifNo X418.here hx rfl (hb hby oo2_d26) rfl (Jvm.Free.XT.i0_eq_f (by decide)) k) ?_
    show OwnGo p e below (T418.setTop (mkF m 29 #[.val (.ref a1), .val (.ref ar), .val (.ref ar), .val (.int (2 : Int32)), .val (.int (0 : Int32)), .val (.ref ad0)] [])) _
    refine own_back (fun t k => XS.iconst X418.here hx rfl (hb hby oo2_d29) k) ?_
    show OwnGo p e below (T418.setTop (mkF m 30 #[.val (.ref a1), .val (.ref ar), .val (.ref ar), .val (.int (2 : Int32)), .val (.int (0 : Int32)), .val (.ref ad0)] [(.int (1 : Int32))])) _
    refine own_retN X418 hx Bd.notSynchronized (t := .boolean) (z := (1 : Int32)) Bd.returns (by simp) rfl (hb hby oo2_d30) hh418 (Nat.le_of_ble_eq_true rfl) (Nat.le_of_ble_eq_true rfl) ?_
    exact ⟨by simp [he0], N418, rfl⟩
  · obtain ⟨cq419, kq419, q419a, q419b, q419c⟩ := isOf hZ e0 D0.exa
    obtain ⟨_, _, ⟨T419, L419, k419, n419⟩, -, X419, ⟨Lc419, hQ419, l419, y419, z419⟩, st419⟩ := X0.virtualBack hx (y := (⟨"java/lang/String", "equals", "(Ljava/lang/Object;)Z"⟩ : MethodName)) (z := (⟨"java/lang/String", "equals", "(Ljava/lang/Object;)Z"⟩ : MethodName)) hown (mvT hZ (hw _ (List.mem_of_getElem? (i := 39) rfl))) (mvT hZ (hw _ (List.mem_of_getElem? (i := 40) rfl))) (notFace_of_selects (args := #[]) (mvT hZ (hw _ (List.mem_of_getElem? (i := 42) rfl)))) (mvT hZ (hw _ (List.mem_of_getElem? (i := 42) rfl))) (mvT hZ (hw _ (List.mem_of_getElem? (i := 41) rfl))) (by decide) (own_backN (W := 0) (rm_seq l Z a0 hw [] ad0 a1 d0 bs cz h0 n0 Z0 OL D0 B1 SC hcz) hZ (hw _ (List.mem_of_getElem? (i := 43) rfl)) (hw _ (List.mem_of_getElem? (i := 6) rfl)) (by decide) (by decide)) q419a q419c (g := (mkF m 23 #[.val (.ref a1), .val (.ref ar), .val (.ref ar), .val (.int (2 : Int32)), .val (.int (0 : Int32)), .val (.ref ad0)] [(.ref a1), (.ref ad0)])) rfl (by rw [hml]; rfl) (Steps.refl _) (argsL := [(.ref a1)]) (rest := []) (lenOf oo2_pd0 rfl) rfl (by show 2 * 0 + _ ≤ _; exact Nat.le_of_eq rfl) (hb hby oo2_d23) (fun _ _ => ⟨rfl, e0, Nat.le_of_ble_eq_true rfl, Nat.le_of_ble_eq_true rfl⟩)
    dsimp only [Pt.U, Pt.locs, Pt.cells, Pt.slots] at X419 l419 y419 z419 st419 hQ419
    subst l419 y419 z419
    rw [if_neg he0] at hQ419
    obtain ⟨rfl, N419q, hh419⟩ := hQ419
    refine own_seq st419 ?_
    have N419 := Fr.app N0 N419q
    show OwnGo p e below (T419.setTop (mkF m 26 #[.val (.ref a1), .val (.ref ar), .val (.ref ar), .val (.int (2 : Int32)), .val (.int (0 : Int32)), .val (.ref ad0)] [(.int (0 : Int32))])) _
    refine own_back (fun t k => XS.ifYes X419.here hx rfl (pc0 := 26) (pc' := 31) rfl (hb hby oo2_d26) rfl (Jvm.Free.XT.i0_eq_t (by decide)) (by decide) (by decide) k) ?_
    show OwnGo p e below (T419.setTop (mkF m 31 #[.val (.ref a1), .val (.ref ar), .val (.ref ar), .val (.int (2 : Int32)), .val (.int (0 : Int32)), .val (.ref ad0)] [])) _
    refine own_back (fun t k => XS.iinc X419.here hx rfl (hb hby oo2_d31) rfl (l' := #[.val (.ref a1), .val (.ref ar), .val (.ref ar), .val (.int (2 : Int32)), .val (.int (1 : Int32)), .val (.ref ad0)]) rfl k) ?_
    show OwnGo p e below (T419.setTop (mkF m 34 #[.val (.ref a1), .val (.ref ar), .val (.ref ar), .val (.int (2 : Int32)), .val (.int (1 : Int32)), .val (.ref ad0)] [])) _
    refine own_back (fun t k => XS.goto X419.here hx rfl (pc0 := 34) (pc' := 8) rfl (hb hby oo2_d34) (by decide) (by decide) k) ?_
    show OwnGo p e below (T419.setTop (mkF m 8 #[.val (.ref a1), .val (.ref ar), .val (.ref ar), .val (.int (2 : Int32)), .val (.int (1 : Int32)), .val (.ref ad0)] [])) _
    refine own_back (fun t k => XS.iload X419.here hx rfl (hb hby oo2_d8) rfl k) ?_
    show OwnGo p e below (T419.setTop (mkF m 10 #[.val (.ref a1), .val (.ref ar), .val (.ref ar), .val (.int (2 : Int32)), .val (.int (1 : Int32)), .val (.ref ad0)] [(.int (1 : Int32))])) _
    refine own_back (fun t k => XS.iloadN X419.here hx rfl (hb hby oo2_d10) rfl k) ?_
    show OwnGo p e below (T419.setTop (mkF m 11 #[.val (.ref a1), .val (.ref ar), .val (.ref ar), .val (.int (2 : Int32)), .val (.int (1 : Int32)), .val (.ref ad0)] [(.int (2 : Int32)), (.int (1 : Int32))])) _
    refine own_back (fun t k => XS.icmpNo X419.here hx rfl (hb hby oo2_d11) rfl (Jvm.Free.XT.ii_ge_f (by decide)) k) ?_
    show OwnGo p e below (T419.setTop (mkF m 14 #[.val (.ref a1), .val (.ref ar), .val (.ref ar), .val (.int (2 : Int32)), .val (.int (1 : Int32)), .val (.ref ad0)] [])) _
    refine own_back (fun t k => XS.aloadN X419.here hx rfl (hb hby oo2_d14) rfl rfl k) ?_
    show OwnGo p e below (T419.setTop (mkF m 15 #[.val (.ref a1), .val (.ref ar), .val (.ref ar), .val (.int (2 : Int32)), .val (.int (1 : Int32)), .val (.ref ad0)] [(.ref ar)])) _
    refine own_back (fun t k => XS.iload X419.here hx rfl (hb hby oo2_d15) rfl k) ?_
    show OwnGo p e below (T419.setTop (mkF m 17 #[.val (.ref a1), .val (.ref ar), .val (.ref ar), .val (.int (2 : Int32)), .val (.int (1 : Int32)), .val (.ref ad0)] [(.int (1 : Int32)), (.ref ar)])) _
    obtain ⟨c420, A420, q420, S420, M420, H420, U420⟩ := id VA
    have ib421 : ¬ ((1 : Int32) < 0 ∨ c420.slots.size ≤ ((1 : Int32)).toNatClampNeg) := (inb_of S420 ⟨by decide, by decide⟩)
    refine own_back (fun t k => X419.aaload hx (j := (1 : Int32)) (v := (.ref ad1)) (own_hat hh419 A420.1) (State.isArrayOf_alike hZ.alike A420.2.1) rfl A420.2.2 ib421 (H420.at ib421 rfl) (g := (mkF m 17 #[.val (.ref a1), .val (.ref ar), .val (.ref ar), .val (.int (2 : Int32)), .val (.int (1 : Int32)), .val (.ref ad0)] [(.int (1 : Int32)), (.ref ar)])) rfl rfl (hb hby oo2_d17) t k) ?_
    show OwnGo p e below (T419.setTop (mkF m 18 #[.val (.ref a1), .val (.ref ar), .val (.ref ar), .val (.int (2 : Int32)), .val (.int (1 : Int32)), .val (.ref ad0)] [(.ref ad1)])) _
    refine own_back (fun t k => XS.astore X419.here hx rfl (hb hby oo2_d18) rfl rfl (l' := #[.val (.ref a1), .val (.ref ar), .val (.ref ar), .val (.int (2 : Int32)), .val (.int (1 : Int32)), .val (.ref ad1)]) rfl k) ?_
    show OwnGo p e below (T419.setTop (mkF m 20 #[.val (.ref a1), .val (.ref ar), .val (.ref ar), .val (.int (2 : Int32)), .val (.int (1 : Int32)), .val (.ref ad1)] [])) _
    refine own_back (fun t k => XS.aload X419.here hx rfl (hb hby oo2_d20) rfl rfl k) ?_
    show OwnGo p e below (T419.setTop (mkF m 22 #[.val (.ref a1), .val (.ref ar), .val (.ref ar), .val (.int (2 : Int32)), .val (.int (1 : Int32)), .val (.ref ad1)] [(.ref ad1)])) _
    refine own_back (fun t k => XS.aloadN X419.here hx rfl (hb hby oo2_d22) rfl rfl k) ?_
    show OwnGo p e below (T419.setTop (mkF m 23 #[.val (.ref a1), .val (.ref ar), .val (.ref ar), .val (.int (2 : Int32)), .val (.int (1 : Int32)), .val (.ref ad1)] [(.ref a1), (.ref ad1)])) _
    by_cases he1 : d1 = bs
    · obtain ⟨cq422, kq422, q422a, q422b, q422c⟩ := isOf hZ hh419 D1.exa
      obtain ⟨_, _, ⟨T422, L422, k422, n422⟩, -, X422, ⟨Lc422, hQ422, l422, y422, z422⟩, st422⟩ := X419.virtualBack hx (y := (⟨"java/lang/String", "equals", "(Ljava/lang/Object;)Z"⟩ : MethodName)) (z := (⟨"java/lang/String", "equals", "(Ljava/lang/Object;)Z"⟩ : MethodName)) hown (mvT hZ (hw _ (List.mem_of_getElem? (i := 39) rfl))) (mvT hZ (hw _ (List.mem_of_getElem? (i := 40) rfl))) (notFace_of_selects (args := #[]) (mvT hZ (hw _ (List.mem_of_getElem? (i := 42) rfl)))) (mvT hZ (hw _ (List.mem_of_getElem? (i := 42) rfl))) (mvT hZ (hw _ (List.mem_of_getElem? (i := 41) rfl))) (by decide) (own_backN (W := 0) (rm_seq l Z a0 hw [] ad1 a1 d1 bs cz h0 n0 Z0 OL D1 B1 SC hcz) hZ (hw _ (List.mem_of_getElem? (i := 43) rfl)) (hw _ (List.mem_of_getElem? (i := 6) rfl)) (by decide) (by decide)) q422a q422c (g := (mkF m 23 #[.val (.ref a1), .val (.ref ar), .val (.ref ar), .val (.int (2 : Int32)), .val (.int (1 : Int32)), .val (.ref ad1)] [(.ref a1), (.ref ad1)])) rfl (by rw [hml]; rfl) (Steps.refl _) (argsL := [(.ref a1)]) (rest := []) (lenOf oo2_pd0 rfl) rfl (by show 2 * 0 + _ ≤ _; exact Nat.le_of_eq rfl) (hb hby oo2_d23) (fun _ _ => ⟨rfl, hh419, Nat.le_of_ble_eq_true rfl, Nat.le_of_ble_eq_true rfl⟩)
      dsimp only [Pt.U, Pt.locs, Pt.cells, Pt.slots] at X422 l422 y422 z422 st422 hQ422
      subst l422 y422 z422
      rw [if_pos he1] at hQ422
      obtain ⟨rfl, N422q, hh422⟩ := hQ422
      refine own_seq st422 ?_
      have N422 := Fr.app N419 N422q
      show OwnGo p e below (T422.setTop (mkF m 26 #[.val (.ref a1), .val (.ref ar), .val (.ref ar), .val (.int (2 : Int32)), .val (.int (1 : Int32)), .val (.ref ad1)] [(.int (1 : Int32))])) _
      refine own_back (fun t k => XS.ifNo X422.here hx rfl (hb hby oo2_d26) rfl (Jvm.Free.XT.i0_eq_f (by decide)) k) ?_
      show OwnGo p e below (T422.setTop (mkF m 29 #[.val (.ref a1), .val (.ref ar), .val (.ref ar), .val (.int (2 : Int32)), .val (.int (1 : Int32)), .val (.ref ad1)] [])) _
      refine own_back (fun t k => XS.iconst X422.here hx rfl (hb hby oo2_d29) k) ?_
      show OwnGo p e below (T422.setTop (mkF m 30 #[.val (.ref a1), .val (.ref ar), .val (.ref ar), .val (.int (2 : Int32)), .val (.int (1 : Int32)), .val (.ref ad1)] [(.int (1 : Int32))])) _
      refine own_retN X422 hx Bd.notSynchronized (t := .boolean) (z := (1 : Int32)) Bd.returns (by simp) rfl (hb hby oo2_d30) hh422 (Nat.le_of_ble_eq_true rfl) (Nat.le_of_ble_eq_true rfl) ?_
      exact ⟨by simp [he0, he1], N422, rfl⟩
    · obtain ⟨cq423, kq423, q423a, q423b, q423c⟩ := isOf hZ hh419 D1.exa
      obtain ⟨_, _, ⟨T423, L423, k423, n423⟩, -, X423, ⟨Lc423, hQ423, l423, y423, z423⟩, st423⟩ := X419.virtualBack hx (y := (⟨"java/lang/String", "equals", "(Ljava/lang/Object;)Z"⟩ : MethodName)) (z := (⟨"java/lang/String", "equals", "(Ljava/lang/Object;)Z"⟩ : MethodName)) hown (mvT hZ (hw _ (List.mem_of_getElem? (i := 39) rfl))) (mvT hZ (hw _ (List.mem_of_getElem? (i := 40) rfl))) (notFace_of_selects (args := #[]) (mvT hZ (hw _ (List.mem_of_getElem? (i := 42) rfl)))) (mvT hZ (hw _ (List.mem_of_getElem? (i := 42) rfl))) (mvT hZ (hw _ (List.mem_of_getElem? (i := 41) rfl))) (by decide) (own_backN (W := 0) (rm_seq l Z a0 hw [] ad1 a1 d1 bs cz h0 n0 Z0 OL D1 B1 SC hcz) hZ (hw _ (List.mem_of_getElem? (i := 43) rfl)) (hw _ (List.mem_of_getElem? (i := 6) rfl)) (by decide) (by decide)) q423a q423c (g := (mkF m 23 #[.val (.ref a1), .val (.ref ar), .val (.ref ar), .val (.int (2 : Int32)), .val (.int (1 : Int32)), .val (.ref ad1)] [(.ref a1), (.ref ad1)])) rfl (by rw [hml]; rfl) (Steps.refl _) (argsL := [(.ref a1)]) (rest := []) (lenOf oo2_pd0 rfl) rfl (by show 2 * 0 + _ ≤ _; exact Nat.le_of_eq rfl) (hb hby oo2_d23) (fun _ _ => ⟨rfl, hh419, Nat.le_of_ble_eq_true rfl, Nat.le_of_ble_eq_true rfl⟩)
      dsimp only [Pt.U, Pt.locs, Pt.cells, Pt.slots] at X423 l423 y423 z423 st423 hQ423
      subst l423 y423 z423
      rw [if_neg he1] at hQ423
      obtain ⟨rfl, N423q, hh423⟩ := hQ423
      refine own_seq st423 ?_
      have N423 := Fr.app N419 N423q
      show OwnGo p e below (T423.setTop (mkF m 26 #[.val (.ref a1), .val (.ref ar), .val (.ref ar), .val (.int (2 : Int32)), .val (.int (1 : Int32)), .val (.ref ad1)] [(.int (0 : Int32))])) _
      refine own_back (fun t k => XS.ifYes X423.here hx rfl (pc0 := 26) (pc' := 31) rfl (hb hby oo2_d26) rfl (Jvm.Free.XT.i0_eq_t (by decide)) (by decide) (by decide) k) ?_
      show OwnGo p e below (T423.setTop (mkF m 31 #[.val (.ref a1), .val (.ref ar), .val (.ref ar), .val (.int (2 : Int32)), .val (.int (1 : Int32)), .val (.ref ad1)] [])) _
      refine own_back (fun t k => XS.iinc X423.here hx rfl (hb hby oo2_d31) rfl (l' := #[.val (.ref a1), .val (.ref ar), .val (.ref ar), .val (.int (2 : Int32)), .val (.int (2 : Int32)), .val (.ref ad1)]) rfl k) ?_
      show OwnGo p e below (T423.setTop (mkF m 34 #[.val (.ref a1), .val (.ref ar), .val (.ref ar), .val (.int (2 : Int32)), .val (.int (2 : Int32)), .val (.ref ad1)] [])) _
      refine own_back (fun t k => XS.goto X423.here hx rfl (pc0 := 34) (pc' := 8) rfl (hb hby oo2_d34) (by decide) (by decide) k) ?_
      show OwnGo p e below (T423.setTop (mkF m 8 #[.val (.ref a1), .val (.ref ar), .val (.ref ar), .val (.int (2 : Int32)), .val (.int (2 : Int32)), .val (.ref ad1)] [])) _
      refine own_back (fun t k => XS.iload X423.here hx rfl (hb hby oo2_d8) rfl k) ?_
      show OwnGo p e below (T423.setTop (mkF m 10 #[.val (.ref a1), .val (.ref ar), .val (.ref ar), .val (.int (2 : Int32)), .val (.int (2 : Int32)), .val (.ref ad1)] [(.int (2 : Int32))])) _
      refine own_back (fun t k => XS.iloadN X423.here hx rfl (hb hby oo2_d10) rfl k) ?_
      show OwnGo p e below (T423.setTop (mkF m 11 #[.val (.ref a1), .val (.ref ar), .val (.ref ar), .val (.int (2 : Int32)), .val (.int (2 : Int32)), .val (.ref ad1)] [(.int (2 : Int32)), (.int (2 : Int32))])) _
      refine own_back (fun t k => XS.icmpYes X423.here hx rfl (pc0 := 11) (pc' := 37) rfl (hb hby oo2_d11) rfl (Jvm.Free.XT.ii_ge_t (by decide)) (by decide) (by decide) k) ?_
      show OwnGo p e below (T423.setTop (mkF m 37 #[.val (.ref a1), .val (.ref ar), .val (.ref ar), .val (.int (2 : Int32)), .val (.int (2 : Int32)), .val (.ref ad1)] [])) _
      refine own_back (fun t k => XS.iconst X423.here hx rfl (hb hby oo2_d37) k) ?_
      show OwnGo p e below (T423.setTop (mkF m 38 #[.val (.ref a1), .val (.ref ar), .val (.ref ar), .val (.int (2 : Int32)), .val (.int (2 : Int32)), .val (.ref ad1)] [(.int (0 : Int32))])) _
      refine own_retN X423 hx Bd.notSynchronized (t := .boolean) (z := (0 : Int32)) Bd.returns (by simp) rfl (hb hby oo2_d38) hh423 (Nat.le_of_ble_eq_true rfl) (Nat.le_of_ble_eq_true rfl) ?_
      exact ⟨by simp [he0, he1], N423, rfl⟩
theorem oo3_d0 : decode prog_62_method_7_code 0 = .ok (.aload_n 1, 1) := by decide +kernel
theorem oo3_d1 : decode prog_62_method_7_code 1 = .ok (.astore_n 2, 1) := by decide +kernel
theorem oo3_d2 : decode prog_62_method_7_code 2 = .ok (.aload_n 2, 1) := by decide +kernel
theorem oo3_d3 : decode prog_62_method_7_code 3 = .ok (.arraylength, 1) := by decide +kernel
theorem oo3_d4 : decode prog_62_method_7_code 4 = .ok (.istore_n 3, 1) := by decide +kernel
theorem oo3_d5 : decode prog_62_method_7_code 5 = .ok (.iconst 0, 1) := by decide +kernel
theorem oo3_d6 : decode prog_62_method_7_code 6 = .ok (.istore 4, 2) := by decide +kernel
theorem oo3_d8 : decode prog_62_method_7_code 8 = .ok (.iload 4, 2) := by decide +kernel
theorem oo3_d10 : decode prog_62_method_7_code 10 = .ok (.iload_n 3, 1) := by decide +kernel
theorem oo3_d11 : decode prog_62_method_7_code 11 = .ok (.if_icmp .ge 26, 3) := by decide +kernel
theorem oo3_d14 : decode prog_62_method_7_code 14 = .ok (.aload_n 2, 1) := by decide +kernel
theorem oo3_d15 : decode prog_62_method_7_code 15 = .ok (.iload 4, 2) := by decide +kernel
theorem oo3_d17 : decode prog_62_method_7_code 17 = .ok (.aaload, 1) := by decide +kernel
theorem oo3_d18 : decode prog_62_method_7_code 18 = .ok (.astore 5, 2) := by decide +kernel
theorem oo3_d20 : decode prog_62_method_7_code 20 = .ok (.aload 5, 2) := by decide +kernel
theorem oo3_d22 : decode prog_62_method_7_code 22 = .ok (.aload_n 0, 1) := by decide +kernel
theorem oo3_d23 : decode prog_62_method_7_code 23 = .ok (.invokevirtual 45, 3) := by decide +kernel
theorem oo3_d26 : decode prog_62_method_7_code 26 = .ok (.ifCond .eq 5, 3) := by decide +kernel
theorem oo3_d29 : decode prog_62_method_7_code 29 = .ok (.iconst 1, 1) := by decide +kernel
theorem oo3_d30 : decode prog_62_method_7_code 30 = .ok (.ireturn, 1) := by decide +kernel
theorem oo3_d31 : decode prog_62_method_7_code 31 = .ok (.iinc 4 1, 3) := by decide +kernel
theorem oo3_d34 : decode prog_62_method_7_code 34 = .ok (.goto (-26), 3) := by decide +kernel
theorem oo3_d37 : decode prog_62_method_7_code 37 = .ok (.iconst 0, 1) := by decide +kernel
theorem oo3_d38 : decode prog_62_method_7_code 38 = .ok (.ireturn, 1) := by decide +kernel
theorem oo3_pn : plainName "com/example/lease/lease/cli/OptionValues" = true := by first | (simp [plainName, overriddenIn]; done) | decide +kernel
theorem oo3_pd0 : parseMethodDescriptor "(Ljava/lang/Object;)Z" = some ⟨[(.object "java/lang/Object")], some .boolean⟩ := by decide +kernel
theorem oo3_ef (m : MethodId) (x0 : Addr) (x1 : Addr) : entryFrame m #[(.ref x0), (.ref x1)] 6 = mkF m 0 #[.val (.ref x0), .val (.ref x1), .unset, .unset, .unset, .unset] [] := by first | (simp [entryFrame, mkF, argsToLocals, Value.category]; done) | rfl
set_option maxRecDepth 65536 in
set_option maxHeartbeats 40000000 in
theorem rm_oo3 (l : Launch) (Z : State) (a0 : Array Value) (hw : ∀ d ∈ tables_1, d.before a0 Z = true) (ws : List Jvm.Cond) (a1 : Addr) (bs : List Int32) (ar : Addr) (ka : ClassId) (ad0 : Addr) (ad1 : Addr) (ad2 : Addr) (d0 : List Int32) (d1 : List Int32) (d2 : List Int32) (cz : Int32) (h0 : Heap) (n0 : Nat) (Z0 : n0 ≤ h0.size) (OL : Old Z n0 h0) (B1 : OwnStr Z h0 a1 bs) (VA : Arv Z h0 ar ka (.object "java/lang/String") (3 : Int32) [.ref ad0, .ref ad1, .ref ad2] .null) (D0 : OwnStr Z h0 ad0 d0) (D1 : OwnStr Z h0 ad1 d1) (D2 : OwnStr Z h0 ad2 d2) (SC : Sta Z Z.heap "java/lang/String" "COMPACT_STRINGS" "Z" (.int cz)) (hcz : ¬ cz = 0) :
    MetFree l (⟨"com/example/lease/lease/cli/OptionValues", "oneOf", "(Ljava/lang/String;[Ljava/lang/String;)Z"⟩ : MethodName) (head1 (Jvm.Cond.code (⟨"com/example/lease/lease/cli/OptionValues", "oneOf", "(Ljava/lang/String;[Ljava/lang/String;)Z"⟩ : MethodName) prog_62_method_7_code 6 (some .boolean) :: ws) ({ frames := 2, cells := 0, slots := 0, locals := 50 } : Room)) (fun a U => a = #[(.ref a1), (.ref ar)] ∧ Z.Warmed39 U.vm ∧ U.heap = h0) (fun _ _ _ _ _ => True) (fun _ U o U' => OwnEnd U (fun v h L => v = some (.int (if d0 = bs ∨ d1 = bs ∨ d2 = bs then 1 else 0)) ∧ Fr n0 L ∧ h = h0) ({ frames := 2, cells := 0, slots := 0, locals := 50 } : Room).cells ({ frames := 2, cells := 0, slots := 0, locals := 50 } : Room).slots o U') := by
  refine MetFree.of_bodySF (plainFor_of_name oo3_pn) hisR ?_
  intro p e s m args below meth c s₁ Bd hml0 hP hK
  obtain ⟨rfl, hZ, hh⟩ := hP
  have hx := Bd.exec
  have hby := Bd.bytes
  have hml : c.maxLocals = 6 := hml0
  have hown : s.vm.findClass "com/example/lease/lease/cli/OptionValues" = some m.cls := findClass_of_methodNamed Bd.named
  have hnm := (name_of_methodNamed Bd.named Bd.method).1
  have X0 : Stand p l e ({ frames := 2, cells := 0, slots := 0, locals := 50 } : Room) s m #[(.ref a1), (.ref ar)] below meth c s₁ [] 0 0 := Stand.of_body Bd
  have e0 : s₁.heap = h0 := by rw [← hh, Bd.state]; rfl
  have N0 := Fr.nil n0
  have KP0 := Keep.refl h0 []
  refine own_go (Q := (OwnEnd s (fun v h L => v = some (.int (if d0 = bs ∨ d1 = bs ∨ d2 = bs then 1 else 0)) ∧ Fr n0 L ∧ h = h0) ({ frames := 2, cells := 0, slots := 0, locals := 50 } : Room).cells ({ frames := 2, cells := 0, slots := 0, locals := 50 } : Room).slots)) ?_
  refine own_back (fun t k => castTop (oo3_ef m a1 ar) k) ?_
  show OwnGo p e below (s₁.setTop (mkF m 0 #[.val (.ref a1), .val (.ref ar), .unset, .unset, .unset, .unset] [])) _
  refine own_back (fun t k => XS.aloadN X0.here hx rfl (hb hby oo3_d0) rfl rfl k) ?_
  show OwnGo p e below (s₁.setTop (mkF m 1 #[.val (.ref a1), .val (.ref ar), .unset, .unset, .unset, .unset] [(.ref ar)])) _
  refine own_back (fun t k => XS.astoreN X0.here hx rfl (hb hby oo3_d1) rfl rfl (l' := #[.val (.ref a1), .val (.ref ar), .val (.ref ar), .unset, .unset, .unset]) rfl k) ?_
  show OwnGo p e below (s₁.setTop (mkF m 2 #[.val (.ref a1), .val (.ref ar), .val (.ref ar), .unset, .unset, .unset] [])) _
  refine own_back (fun t k => XS.aloadN X0.here hx rfl (hb hby oo3_d2) rfl rfl k) ?_
  show OwnGo p e below (s₁.setTop (mkF m 3 #[.val (.ref a1), .val (.ref ar), .val (.ref ar), .unset, .unset, .unset] [(.ref ar)])) _
  obtain ⟨c424, A424, q424, S424, M424, H424, U424⟩ := id VA
  refine own_back (fun t k => X0.arraylength hx (own_hat e0 A424.1) (State.isArrayOf_alike hZ.alike A424.2.1) (g := (mkF m 3 #[.val (.ref a1), .val (.ref ar), .val (.ref ar), .unset, .unset, .unset] [(.ref ar)])) rfl rfl (hb hby oo3_d3) t k) ?_
  rw [len_of S424 M424]
  show OwnGo p e below (s₁.setTop (mkF m 4 #[.val (.ref a1), .val (.ref ar), .val (.ref ar), .unset, .unset, .unset] [(.int (3 : Int32))])) _
  refine own_back (fun t k => XS.istoreN X0.here hx rfl (hb hby oo3_d4) rfl (l' := #[.val (.ref a1), .val (.ref ar), .val (.ref ar), .val (.int (3 : Int32)), .unset, .unset]) rfl k) ?_
  show OwnGo p e below (s₁.setTop (mkF m 5 #[.val (.ref a1), .val (.ref ar), .val (.ref ar), .val (.int (3 : Int32)), .unset, .unset] [])) _
  refine own_back (fun t k => XS.iconst X0.here hx rfl (hb hby oo3_d5) k) ?_
  show OwnGo p e below (s₁.setTop (mkF m 6 #[.val (.ref a1), .val (.ref ar), .val (.ref ar), .val (.int (3 : Int32)), .unset, .unset] [(.int (0 : Int32))])) _
  refine own_back (fun t k => XS.istore X0.here hx rfl (hb hby oo3_d6) rfl (l' := #[.val (.ref a1), .val (.ref ar), .val (.ref ar), .val (.int (3 : Int32)), .val (.int (0 : Int32)), .unset]) rfl k) ?_
  show OwnGo p e below (s₁.setTop (mkF m 8 #[.val (.ref a1), .val (.ref ar), .val (.ref ar), .val (.int (3 : Int32)), .val (.int (0 : Int32)), .unset] [])) _
  refine own_back (fun t k => XS.iload X0.here hx rfl (hb hby oo3_d8) rfl k) ?_
  show OwnGo p e below (s₁.setTop (mkF m 10 #[.val (.ref a1), .val (.ref ar), .val (.ref ar), .val (.int (3 : Int32)), .val (.int (0 : Int32)), .unset] [(.int (0 : Int32))])) _
  refine own_back (fun t k => XS.iloadN X0.here hx rfl (hb hby oo3_d10) rfl k) ?_
  show OwnGo p e below (s₁.setTop (mkF m 11 #[.val (.ref a1), .val (.ref ar), .val (.ref ar), .val (.int (3 : Int32)), .val (.int (0 : Int32)), .unset] [(.int (3 : Int32)), (.int (0 : Int32))])) _
  refine own_back (fun t k => XS.icmpNo X0.here hx rfl (hb hby oo3_d11) rfl (Jvm.Free.XT.ii_ge_f (by decide)) k) ?_
  show OwnGo p e below (s₁.setTop (mkF m 14 #[.val (.ref a1), .val (.ref ar), .val (.ref ar), .val (.int (3 : Int32)), .val (.int (0 : Int32)), .unset] [])) _
  refine own_back (fun t k => XS.aloadN X0.here hx rfl (hb hby oo3_d14) rfl rfl k) ?_
  show OwnGo p e below (s₁.setTop (mkF m 15 #[.val (.ref a1), .val (.ref ar), .val (.ref ar), .val (.int (3 : Int32)), .val (.int (0 : Int32)), .unset] [(.ref ar)])) _
  refine own_back (fun t k => XS.iload X0.here hx rfl (hb hby oo3_d15) rfl k) ?_
  show OwnGo p e below (s₁.setTop (mkF m 17 #[.val (.ref a1), .val (.ref ar), .val (.ref ar), .val (.int (3 : Int32)), .val (.int (0 : Int32)), .unset] [(.int (0 : Int32)), (.ref ar)])) _
  obtain ⟨c425, A425, q425, S425, M425, H425, U425⟩ := id VA
  have ib426 : ¬ ((0 : Int32) < 0 ∨ c425.slots.size ≤ ((0 : Int32)).toNatClampNeg) := (inb_of S425 ⟨by decide, by decide⟩)
  refine own_back (fun t k => X0.aaload hx (j := (0 : Int32)) (v := (.ref ad0)) (own_hat e0 A425.1) (State.isArrayOf_alike hZ.alike A425.2.1) rfl A425.2.2 ib426 (H425.at ib426 rfl) (g := (mkF m 17 #[.val (.ref a1), .val (.ref ar), .val (.ref ar), .val (.int (3 : Int32)), .val (.int (0 : Int32)), .unset] [(.int (0 : Int32)), (.ref ar)])) rfl rfl (hb hby oo3_d17) t k) ?_
  show OwnGo p e below (s₁.setTop (mkF m 18 #[.val (.ref a1), .val (.ref ar), .val (.ref ar), .val (.int (3 : Int32)), .val (.int (0 : Int32)), .unset] [(.ref ad0)])) _
  refine own_back (fun t k => XS.astore X0.here hx rfl (hb hby oo3_d18) rfl rfl (l' := #[.val (.ref a1), .val (.ref ar), .val (.ref ar), .val (.int (3 : Int32)), .val (.int (0 : Int32)), .val (.ref ad0)]) rfl k) ?_
  show OwnGo p e below (s₁.setTop (mkF m 20 #[.val (.ref a1), .val (.ref ar), .val (.ref ar), .val (.int (3 : Int32)), .val (.int (0 : Int32)), .val (.ref ad0)] [])) _
  refine own_back (fun t k => XS.aload X0.here hx rfl (hb hby oo3_d20) rfl rfl k) ?_
  show OwnGo p e below (s₁.setTop (mkF m 22 #[.val (.ref a1), .val (.ref ar), .val (.ref ar), .val (.int (3 : Int32)), .val (.int (0 : Int32)), .val (.ref ad0)] [(.ref ad0)])) _
  refine own_back (fun t k => XS.aloadN X0.here hx rfl (hb hby oo3_d22) rfl rfl k) ?_
  show OwnGo p e below (s₁.setTop (mkF m 23 #[.val (.ref a1), .val (.ref ar), .val (.ref ar), .val (.int (3 : Int32)), .val (.int (0 : Int32)), .val (.ref ad0)] [(.ref a1), (.ref ad0)])) _
  by_cases he0 : d0 = bs
  · obtain ⟨cq427, kq427, q427a, q427b, q427c⟩ := isOf hZ e0 D0.exa
    obtain ⟨_, _, ⟨T427, L427, k427, n427⟩, -, X427, ⟨Lc427, hQ427, l427, y427, z427⟩, st427⟩ := X0.virtualBack hx (y := (⟨"java/lang/String", "equals", "(Ljava/lang/Object;)Z"⟩ : MethodName)) (z := (⟨"java/lang/String", "equals", "(Ljava/lang/Object;)Z"⟩ : MethodName)) hown (mvT hZ (hw _ (List.mem_of_getElem? (i := 39) rfl))) (mvT hZ (hw _ (List.mem_of_getElem? (i := 40) rfl))) (notFace_of_selects (args := #[]) (mvT hZ (hw _ (List.mem_of_getElem? (i := 42) rfl)))) (mvT hZ (hw _ (List.mem_of_getElem? (i := 42) rfl))) (mvT hZ (hw _ (List.mem_of_getElem? (i := 41) rfl))) (by decide) (own_backN (W := 0) (rm_seq l Z a0 hw [] ad0 a1 d0 bs cz h0 n0 Z0 OL D0 B1 SC hcz) hZ (hw _ (List.mem_of_getElem? (i := 43) rfl)) (hw _ (List.mem_of_getElem? (i := 6) rfl)) (by decide) (by decide)) q427a q427c (g := (mkF m 23 #[.val (.ref a1), .val (.ref ar), .val (.ref ar), .val (.int (3 : Int32)), .val (.int (0 : Int32)), .val (.ref ad0)] [(.ref a1), (.ref ad0)])) rfl (by rw [hml]; rfl) (Steps.refl _) (argsL := [(.ref a1)]) (rest := []) (lenOf oo3_pd0 rfl) rfl (by show 2 * 0 + _ ≤ _; exact Nat.le_of_eq rfl) (hb hby oo3_d23) (fun _ _ => ⟨rfl, e0, Nat.le_of_ble_eq_true rfl, Nat.le_of_ble_eq_true rfl⟩)
    dsimp only [Pt.U, Pt.locs, Pt.cells, Pt.slots] at X427 l427 y427 z427 st427 hQ427
    subst l427 y427 z427
    rw [if_pos he0] at hQ427
    obtain ⟨rfl, N427q, hh427⟩ := hQ427
    refine own_seq st427 ?_
    have N427 := Fr.app N0 N427q
    show OwnGo p e below (T427.setTop (mkF m 26 #[.val (.ref a1), .val (.ref ar), .val (.ref ar), .val (.int (3 : Int32)), .val (.int (0 : Int32)), .val (.ref ad0)] [(.int (1 : Int32))])) _
    refine own_back (fun t k => XS.ifNo X427.here hx rfl (hb hby oo3_d26) rfl (Jvm.Free.XT.i0_eq_f (by decide)) k) ?_
    show OwnGo p e below (T427.setTop (mkF m 29 #[.val (.ref a1), .val (.ref ar), .val (.ref ar), .val (.int (3 : Int32)), .val (.int (0 : Int32)), .val (.ref ad0)] [])) _
    refine own_back (fun t k => XS.iconst X427.here hx rfl (hb hby oo3_d29) k) ?_
    show OwnGo p e below (T427.setTop (mkF m 30 #[.val (.ref a1), .val (.ref ar), .val (.ref ar), .val (.int (3 : Int32)), .val (.int (0 : Int32)), .val (.ref ad0)] [(.int (1 : Int32))])) _
    refine own_retN X427 hx Bd.notSynchronized (t := .boolean) (z := (1 : Int32)) Bd.returns (by simp) rfl (hb hby oo3_d30) hh427 (Nat.le_of_ble_eq_true rfl) (Nat.le_of_ble_eq_true rfl) ?_
    exact ⟨by simp [he0], N427, rfl⟩
  · obtain ⟨cq428, kq428, q428a, q428b, q428c⟩ := isOf hZ e0 D0.exa
    obtain ⟨_, _, ⟨T428, L428, k428, n428⟩, -, X428, ⟨Lc428, hQ428, l428, y428, z428⟩, st428⟩ := X0.virtualBack hx (y := (⟨"java/lang/String", "equals", "(Ljava/lang/Object;)Z"⟩ : MethodName)) (z := (⟨"java/lang/String", "equals", "(Ljava/lang/Object;)Z"⟩ : MethodName)) hown (mvT hZ (hw _ (List.mem_of_getElem? (i := 39) rfl))) (mvT hZ (hw _ (List.mem_of_getElem? (i := 40) rfl))) (notFace_of_selects (args := #[]) (mvT hZ (hw _ (List.mem_of_getElem? (i := 42) rfl)))) (mvT hZ (hw _ (List.mem_of_getElem? (i := 42) rfl))) (mvT hZ (hw _ (List.mem_of_getElem? (i := 41) rfl))) (by decide) (own_backN (W := 0) (rm_seq l Z a0 hw [] ad0 a1 d0 bs cz h0 n0 Z0 OL D0 B1 SC hcz) hZ (hw _ (List.mem_of_getElem? (i := 43) rfl)) (hw _ (List.mem_of_getElem? (i := 6) rfl)) (by decide) (by decide)) q428a q428c (g := (mkF m 23 #[.val (.ref a1), .val (.ref ar), .val (.ref ar), .val (.int (3 : Int32)), .val (.int (0 : Int32)), .val (.ref ad0)] [(.ref a1), (.ref ad0)])) rfl (by rw [hml]; rfl) (Steps.refl _) (argsL := [(.ref a1)]) (rest := []) (lenOf oo3_pd0 rfl) rfl (by show 2 * 0 + _ ≤ _; exact Nat.le_of_eq rfl) (hb hby oo3_d23) (fun _ _ => ⟨rfl, e0, Nat.le_of_ble_eq_true rfl, Nat.le_of_ble_eq_true rfl⟩)
    dsimp only [Pt.U, Pt.locs, Pt.cells, Pt.slots] at X428 l428 y428 z428 st428 hQ428
    subst l428 y428 z428
    rw [if_neg he0] at hQ428
    obtain ⟨rfl, N428q, hh428⟩ := hQ428
    refine own_seq st428 ?_
    have N428 := Fr.app N0 N428q
    show OwnGo p e below (T428.setTop (mkF m 26 #[.val (.ref a1), .val (.ref ar), .val (.ref ar), .val (.int (3 : Int32)), .val (.int (0 : Int32)), .val (.ref ad0)] [(.int (0 : Int32))])) _
    refine own_back (fun t k => XS.ifYes X428.here hx rfl (pc0 := 26) (pc' := 31) rfl (hb hby oo3_d26) rfl (Jvm.Free.XT.i0_eq_t (by decide)) (by decide) (by decide) k) ?_
    show OwnGo p e below (T428.setTop (mkF m 31 #[.val (.ref a1), .val (.ref ar), .val (.ref ar), .val (.int (3 : Int32)), .val (.int (0 : Int32)), .val (.ref ad0)] [])) _
    refine own_back (fun t k => XS.iinc X428.here hx rfl (hb hby oo3_d31) rfl (l' := #[.val (.ref a1), .val (.ref ar), .val (.ref ar), .val (.int (3 : Int32)), .val (.int (1 : Int32)), .val (.ref ad0)]) rfl k) ?_
    show OwnGo p e below (T428.setTop (mkF m 34 #[.val (.ref a1), .val (.ref ar), .val (.ref ar), .val (.int (3 : Int32)), .val (.int (1 : Int32)), .val (.ref ad0)] [])) _
    refine own_back (fun t k => XS.goto X428.here hx rfl (pc0 := 34) (pc' := 8) rfl (hb hby oo3_d34) (by decide) (by decide) k) ?_
    show OwnGo p e below (T428.setTop (mkF m 8 #[.val (.ref a1), .val (.ref ar), .val (.ref ar), .val (.int (3 : Int32)), .val (.int (1 : Int32)), .val (.ref ad0)] [])) _
    refine own_back (fun t k => XS.iload X428.here hx rfl (hb hby oo3_d8) rfl k) ?_
    show OwnGo p e below (T428.setTop (mkF m 10 #[.val (.ref a1), .val (.ref ar), .val (.ref ar), .val (.int (3 : Int32)), .val (.int (1 : Int32)), .val (.ref ad0)] [(.int (1 : Int32))])) _
    refine own_back (fun t k => XS.iloadN X428.here hx rfl (hb hby oo3_d10) rfl k) ?_
    show OwnGo p e below (T428.setTop (mkF m 11 #[.val (.ref a1), .val (.ref ar), .val (.ref ar), .val (.int (3 : Int32)), .val (.int (1 : Int32)), .val (.ref ad0)] [(.int (3 : Int32)), (.int (1 : Int32))])) _
    refine own_back (fun t k => XS.icmpNo X428.here hx rfl (hb hby oo3_d11) rfl (Jvm.Free.XT.ii_ge_f (by decide)) k) ?_
    show OwnGo p e below (T428.setTop (mkF m 14 #[.val (.ref a1), .val (.ref ar), .val (.ref ar), .val (.int (3 : Int32)), .val (.int (1 : Int32)), .val (.ref ad0)] [])) _
    refine own_back (fun t k => XS.aloadN X428.here hx rfl (hb hby oo3_d14) rfl rfl k) ?_
    show OwnGo p e below (T428.setTop (mkF m 15 #[.val (.ref a1), .val (.ref ar), .val (.ref ar), .val (.int (3 : Int32)), .val (.int (1 : Int32)), .val (.ref ad0)] [(.ref ar)])) _
    refine own_back (fun t k => XS.iload X428.here hx rfl (hb hby oo3_d15) rfl k) ?_
    show OwnGo p e below (T428.setTop (mkF m 17 #[.val (.ref a1), .val (.ref ar), .val (.ref ar), .val (.int (3 : Int32)), .val (.int (1 : Int32)), .val (.ref ad0)] [(.int (1 : Int32)), (.ref ar)])) _
    obtain ⟨c429, A429, q429, S429, M429, H429, U429⟩ := id VA
    have ib430 : ¬ ((1 : Int32) < 0 ∨ c429.slots.size ≤ ((1 : Int32)).toNatClampNeg) := (inb_of S429 ⟨by decide, by decide⟩)
    refine own_back (fun t k => X428.aaload hx (j := (1 : Int32)) (v := (.ref ad1)) (own_hat hh428 A429.1) (State.isArrayOf_alike hZ.alike A429.2.1) rfl A429.2.2 ib430 (H429.at ib430 rfl) (g := (mkF m 17 #[.val (.ref a1), .val (.ref ar), .val (.ref ar), .val (.int (3 : Int32)), .val (.int (1 : Int32)), .val (.ref ad0)] [(.int (1 : Int32)), (.ref ar)])) rfl rfl (hb hby oo3_d17) t k) ?_
    show OwnGo p e below (T428.setTop (mkF m 18 #[.val (.ref a1), .val (.ref ar), .val (.ref ar), .val (.int (3 : Int32)), .val (.int (1 : Int32)), .val (.ref ad0)] [(.ref ad1)])) _
    refine own_back (fun t k => XS.astore X428.here hx rfl (hb hby oo3_d18) rfl rfl (l' := #[.val (.ref a1), .val (.ref ar), .val (.ref ar), .val (.int (3 : Int32)), .val (.int (1 : Int32)), .val (.ref ad1)]) rfl k) ?_
    show OwnGo p e below (T428.setTop (mkF m 20 #[.val (.ref a1), .val (.ref ar), .val (.ref ar), .val (.int (3 : Int32)), .val (.int (1 : Int32)), .val (.ref ad1)] [])) _
    refine own_back (fun t k => XS.aload X428.here hx rfl (hb hby oo3_d20) rfl rfl k) ?_
    show OwnGo p e below (T428.setTop (mkF m 22 #[.val (.ref a1), .val (.ref ar), .val (.ref ar), .val (.int (3 : Int32)), .val (.int (1 : Int32)), .val (.ref ad1)] [(.ref ad1)])) _
    refine own_back (fun t k => XS.aloadN X428.here hx rfl (hb hby oo3_d22) rfl rfl k) ?_
    show OwnGo p e below (T428.setTop (mkF m 23 #[.val (.ref a1), .val (.ref ar), .val (.ref ar), .val (.int (3 : Int32)), .val (.int (1 : Int32)), .val (.ref ad1)] [(.ref a1), (.ref ad1)])) _
    by_cases he1 : d1 = bs
    · obtain ⟨cq431, kq431, q431a, q431b, q431c⟩ := isOf hZ hh428 D1.exa
      obtain ⟨_, _, ⟨T431, L431, k431, n431⟩, -, X431, ⟨Lc431, hQ431, l431, y431, z431⟩, st431⟩ := X428.virtualBack hx (y := (⟨"java/lang/String", "equals", "(Ljava/lang/Object;)Z"⟩ : MethodName)) (z := (⟨"java/lang/String", "equals", "(Ljava/lang/Object;)Z"⟩ : MethodName)) hown (mvT hZ (hw _ (List.mem_of_getElem? (i := 39) rfl))) (mvT hZ (hw _ (List.mem_of_getElem? (i := 40) rfl))) (notFace_of_selects (args := #[]) (mvT hZ (hw _ (List.mem_of_getElem? (i := 42) rfl)))) (mvT hZ (hw _ (List.mem_of_getElem? (i := 42) rfl))) (mvT hZ (hw _ (List.mem_of_getElem? (i := 41) rfl))) (by decide) (own_backN (W := 0) (rm_seq l Z a0 hw [] ad1 a1 d1 bs cz h0 n0 Z0 OL D1 B1 SC hcz) hZ (hw _ (List.mem_of_getElem? (i := 43) rfl)) (hw _ (List.mem_of_getElem? (i := 6) rfl)) (by decide) (by decide)) q431a q431c (g := (mkF m 23 #[.val (.ref a1), .val (.ref ar), .val (.ref ar), .val (.int (3 : Int32)), .val (.int (1 : Int32)), .val (.ref ad1)] [(.ref a1), (.ref ad1)])) rfl (by rw [hml]; rfl) (Steps.refl _) (argsL := [(.ref a1)]) (rest := []) (lenOf oo3_pd0 rfl) rfl (by show 2 * 0 + _ ≤ _; exact Nat.le_of_eq rfl) (hb hby oo3_d23) (fun _ _ => ⟨rfl, hh428, Nat.le_of_ble_eq_true rfl, Nat.le_of_ble_eq_true rfl⟩)
      dsimp only [Pt.U, Pt.locs, Pt.cells, Pt.slots] at X431 l431 y431 z431 st431 hQ431
      subst l431 y431 z431
      rw [if_pos he1] at hQ431
      obtain ⟨rfl, N431q, hh431⟩ := hQ431
      refine own_seq st431 ?_
      have N431 := Fr.app N428 N431q
      show OwnGo p e below (T431.setTop (mkF m 26 #[.val (.ref a1), .val (.ref ar), .val (.ref ar), .val (.int (3 : Int32)), .val (.int (1 : Int32)), .val (.ref ad1)] [(.int (1 : Int32))])) _
      refine own_back (fun t k => XS.ifNo X431.here hx rfl (hb hby oo3_d26) rfl (Jvm.Free.XT.i0_eq_f (by decide)) k) ?_
      show OwnGo p e below (T431.setTop (mkF m 29 #[.val (.ref a1), .val (.ref ar), .val (.ref ar), .val (.int (3 : Int32)), .val (.int (1 : Int32)), .val (.ref ad1)] [])) _
      refine own_back (fun t k => XS.iconst X431.here hx rfl (hb hby oo3_d29) k) ?_
      show OwnGo p e below (T431.setTop (mkF m 30 #[.val (.ref a1), .val (.ref ar), .val (.ref ar), .val (.int (3 : Int32)), .val (.int (1 : Int32)), .val (.ref ad1)] [(.int (1 : Int32))])) _
      refine own_retN X431 hx Bd.notSynchronized (t := .boolean) (z := (1 : Int32)) Bd.returns (by simp) rfl (hb hby oo3_d30) hh431 (Nat.le_of_ble_eq_true rfl) (Nat.le_of_ble_eq_true rfl) ?_
      exact ⟨by simp [he0, he1], N431, rfl⟩
    · obtain ⟨cq432, kq432, q432a, q432b, q432c⟩ := isOf hZ hh428 D1.exa
      obtain ⟨_, _, ⟨T432, L432, k432, n432⟩, -, X432, ⟨Lc432, hQ432, l432, y432, z432⟩, st432⟩ := X428.virtualBack hx (y := (⟨"java/lang/String", "equals", "(Ljava/lang/Object;)Z"⟩ : MethodName)) (z := (⟨"java/lang/String", "equals", "(Ljava/lang/Object;)Z"⟩ : MethodName)) hown (mvT hZ (hw _ (List.mem_of_getElem? (i := 39) rfl))) (mvT hZ (hw _ (List.mem_of_getElem? (i := 40) rfl))) (notFace_of_selects (args := #[]) (mvT hZ (hw _ (List.mem_of_getElem? (i := 42) rfl)))) (mvT hZ (hw _ (List.mem_of_getElem? (i := 42) rfl))) (mvT hZ (hw _ (List.mem_of_getElem? (i := 41) rfl))) (by decide) (own_backN (W := 0) (rm_seq l Z a0 hw [] ad1 a1 d1 bs cz h0 n0 Z0 OL D1 B1 SC hcz) hZ (hw _ (List.mem_of_getElem? (i := 43) rfl)) (hw _ (List.mem_of_getElem? (i := 6) rfl)) (by decide) (by decide)) q432a q432c (g := (mkF m 23 #[.val (.ref a1), .val (.ref ar), .val (.ref ar), .val (.int (3 : Int32)), .val (.int (1 : Int32)), .val (.ref ad1)] [(.ref a1), (.ref ad1)])) rfl (by rw [hml]; rfl) (Steps.refl _) (argsL := [(.ref a1)]) (rest := []) (lenOf oo3_pd0 rfl) rfl (by show 2 * 0 + _ ≤ _; exact Nat.le_of_eq rfl) (hb hby oo3_d23) (fun _ _ => ⟨rfl, hh428, Nat.le_of_ble_eq_true rfl, Nat.le_of_ble_eq_true rfl⟩)
      dsimp only [Pt.U, Pt.locs, Pt.cells, Pt.slots] at X432 l432 y432 z432 st432 hQ432
      subst l432 y432 z432
      rw [if_neg he1] at hQ432
      obtain ⟨rfl, N432q, hh432⟩ := hQ432
      refine own_seq st432 ?_
      have N432 := Fr.app N428 N432q
      show OwnGo p e below (T432.setTop (mkF m 26 #[.val (.ref a1), .val (.ref ar), .val (.ref ar), .val (.int (3 : Int32)), .val (.int (1 : Int32)), .val (.ref ad1)] [(.int (0 : Int32))])) _
      refine own_back (fun t k => XS.ifYes X432.here hx rfl (pc0 := 26) (pc' := 31) rfl (hb hby oo3_d26) rfl (Jvm.Free.XT.i0_eq_t (by decide)) (by decide) (by decide) k) ?_
      show OwnGo p e below (T432.setTop (mkF m 31 #[.val (.ref a1), .val (.ref ar), .val (.ref ar), .val (.int (3 : Int32)), .val (.int (1 : Int32)), .val (.ref ad1)] [])) _
      refine own_back (fun t k => XS.iinc X432.here hx rfl (hb hby oo3_d31) rfl (l' := #[.val (.ref a1), .val (.ref ar), .val (.ref ar), .val (.int (3 : Int32)), .val (.int (2 : Int32)), .val (.ref ad1)]) rfl k) ?_
      show OwnGo p e below (T432.setTop (mkF m 34 #[.val (.ref a1), .val (.ref ar), .val (.ref ar), .val (.int (3 : Int32)), .val (.int (2 : Int32)), .val (.ref ad1)] [])) _
      refine own_back (fun t k => XS.goto X432.here hx rfl (pc0 := 34) (pc' := 8) rfl (hb hby oo3_d34) (by decide) (by decide) k) ?_
      show OwnGo p e below (T432.setTop (mkF m 8 #[.val (.ref a1), .val (.ref ar), .val (.ref ar), .val (.int (3 : Int32)), .val (.int (2 : Int32)), .val (.ref ad1)] [])) _
      refine own_back (fun t k => XS.iload X432.here hx rfl (hb hby oo3_d8) rfl k) ?_
      show OwnGo p e below (T432.setTop (mkF m 10 #[.val (.ref a1), .val (.ref ar), .val (.ref ar), .val (.int (3 : Int32)), .val (.int (2 : Int32)), .val (.ref ad1)] [(.int (2 : Int32))])) _
      refine own_back (fun t k => XS.iloadN X432.here hx rfl (hb hby oo3_d10) rfl k) ?_
      show OwnGo p e below (T432.setTop (mkF m 11 #[.val (.ref a1), .val (.ref ar), .val (.ref ar), .val (.int (3 : Int32)), .val (.int (2 : Int32)), .val (.ref ad1)] [(.int (3 : Int32)), (.int (2 : Int32))])) _
      refine own_back (fun t k => XS.icmpNo X432.here hx rfl (hb hby oo3_d11) rfl (Jvm.Free.XT.ii_ge_f (by decide)) k) ?_
      show OwnGo p e below (T432.setTop (mkF m 14 #[.val (.ref a1), .val (.ref ar), .val (.ref ar), .val (.int (3 : Int32)), .val (.int (2 : Int32)), .val (.ref ad1)] [])) _
      refine own_back (fun t k => XS.aloadN X432.here hx rfl (hb hby oo3_d14) rfl rfl k) ?_
      show OwnGo p e below (T432.setTop (mkF m 15 #[.val (.ref a1), .val (.ref ar), .val (.ref ar), .val (.int (3 : Int32)), .val (.int (2 : Int32)), .val (.ref ad1)] [(.ref ar)])) _
      refine own_back (fun t k => XS.iload X432.here hx rfl (hb hby oo3_d15) rfl k) ?_
      show OwnGo p e below (T432.setTop (mkF m 17 #[.val (.ref a1), .val (.ref ar), .val (.ref ar), .val (.int (3 : Int32)), .val (.int (2 : Int32)), .val (.ref ad1)] [(.int (2 : Int32)), (.ref ar)])) _
      obtain ⟨c433, A433, q433, S433, M433, H433, U433⟩ := id VA
      have ib434 : ¬ ((2 : Int32) < 0 ∨ c433.slots.size ≤ ((2 : Int32)).toNatClampNeg) := (inb_of S433 ⟨by decide, by decide⟩)
      refine own_back (fun t k => X432.aaload hx (j := (2 : Int32)) (v := (.ref ad2)) (own_hat hh432 A433.1) (State.isArrayOf_alike hZ.alike A433.2.1) rfl A433.2.2 ib434 (H433.at ib434 rfl) (g := (mkF m 17 #[.val (.ref a1), .val (.ref ar), .val (.ref ar), .val (.int (3 : Int32)), .val (.int (2 : Int32)), .val (.ref ad1)] [(.int (2 : Int32)), (.ref ar)])) rfl rfl (hb hby oo3_d17) t k) ?_
      show OwnGo p e below (T432.setTop (mkF m 18 #[.val (.ref a1), .val (.ref ar), .val (.ref ar), .val (.int (3 : Int32)), .val (.int (2 : Int32)), .val (.ref ad1)] [(.ref ad2)])) _
      refine own_back (fun t k => XS.astore X432.here hx rfl (hb hby oo3_d18) rfl rfl (l' := #[.val (.ref a1), .val (.ref ar), .val (.ref ar), .val (.int (3 : Int32)), .val (.int (2 : Int32)), .val (.ref ad2)]) rfl k) ?_
      show OwnGo p e below (T432.setTop (mkF m 20 #[.val (.ref a1), .val (.ref ar), .val (.ref ar), .val (.int (3 : Int32)), .val (.int (2 : Int32)), .val (.ref ad2)] [])) _
      refine own_back (fun t k => XS.aload X432.here hx rfl (hb hby oo3_d20) rfl rfl k) ?_
      show OwnGo p e below (T432.setTop (mkF m 22 #[.val (.ref a1), .val (.ref ar), .val (.ref ar), .val (.int (3 : Int32)), .val (.int (2 : Int32)), .val (.ref ad2)] [(.ref ad2)])) _
      refine own_back (fun t k => XS.aloadN X432.here hx rfl (hb hby oo3_d22) rfl rfl k) ?_
      show OwnGo p e below (T432.setTop (mkF m 23 #[.val (.ref a1), .val (.ref ar), .val (.ref ar), .val (.int (3 : Int32)), .val (.int (2 : Int32)), .val (.ref ad2)] [(.ref a1), (.ref ad2)])) _
      by_cases he2 : d2 = bs
      · obtain ⟨cq435, kq435, q435a, q435b, q435c⟩ := isOf hZ hh432 D2.exa
        obtain ⟨_, _, ⟨T435, L435, k435, n435⟩, -, X435, ⟨Lc435, hQ435, l435, y435, z435⟩, st435⟩ := X432.virtualBack hx (y := (⟨"java/lang/String", "equals", "(Ljava/lang/Object;)Z"⟩ : MethodName)) (z := (⟨"java/lang/String", "equals", "(Ljava/lang/Object;)Z"⟩ : MethodName)) hown (mvT hZ (hw _ (List.mem_of_getElem? (i := 39) rfl))) (mvT hZ (hw _ (List.mem_of_getElem? (i := 40) rfl))) (notFace_of_selects (args := #[]) (mvT hZ (hw _ (List.mem_of_getElem? (i := 42) rfl)))) (mvT hZ (hw _ (List.mem_of_getElem? (i := 42) rfl))) (mvT hZ (hw _ (List.mem_of_getElem? (i := 41) rfl))) (by decide) (own_backN (W := 0) (rm_seq l Z a0 hw [] ad2 a1 d2 bs cz h0 n0 Z0 OL D2 B1 SC hcz) hZ (hw _ (List.mem_of_getElem? (i := 43) rfl)) (hw _ (List.mem_of_getElem? (i := 6) rfl)) (by decide) (by decide)) q435a q435c (g := (mkF m 23 #[.val (.ref a1), .val (.ref ar), .val (.ref ar), .val (.int (3 : Int32)), .val (.int (2 : Int32)), .val (.ref ad2)] [(.ref a1), (.ref ad2)])) rfl (by rw [hml]; rfl) (Steps.refl _) (argsL := [(.ref a1)]) (rest := []) (lenOf oo3_pd0 rfl) rfl (by show 2 * 0 + _ ≤ _; exact Nat.le_of_eq rfl) (hb hby oo3_d23) (fun _ _ => ⟨rfl, hh432, Nat.le_of_ble_eq_true rfl, Nat.le_of_ble_eq_true rfl⟩)
        dsimp only [Pt.U, Pt.locs, Pt.cells, Pt.slots] at X435 l435 y435 z435 st435 hQ435
        subst l435 y435 z435
        rw [if_pos he2] at hQ435
        obtain ⟨rfl, N435q, hh435⟩ := hQ435
        refine own_seq st435 ?_
        have N435 := Fr.app N432 N435q
        show OwnGo p e below (T435.setTop (mkF m 26 #[.val (.ref a1), .val (.ref ar), .val (.ref ar), .val (.int (3 : Int32)), .val (.int (2 : Int32)), .val (.ref ad2)] [(.int (1 : Int32))])) _
        refine own_back (fun t k => XS.ifNo X435.here hx rfl (hb hby oo3_d26) rfl (Jvm.Free.XT.i0_eq_f (by decide)) k) ?_
        show OwnGo p e below (T435.setTop (mkF m 29 #[.val (.ref a1), .val (.ref ar), .val (.ref ar), .val (.int (3 : Int32)), .val (.int (2 : Int32)), .val (.ref ad2)] [])) _
        refine own_back (fun t k => XS.iconst X435.here hx rfl (hb hby oo3_d29) k) ?_
        show OwnGo p e below (T435.setTop (mkF m 30 #[.val (.ref a1), .val (.ref ar), .val (.ref ar), .val (.int (3 : Int32)), .val (.int (2 : Int32)), .val (.ref ad2)] [(.int (1 : Int32))])) _
        refine own_retN X435 hx Bd.notSynchronized (t := .boolean) (z := (1 : Int32)) Bd.returns (by simp) rfl (hb hby oo3_d30) hh435 (Nat.le_of_ble_eq_true rfl) (Nat.le_of_ble_eq_true rfl) ?_
        exact ⟨by simp [he0, he1, he2], N435, rfl⟩
      · obtain ⟨cq436, kq436, q436a, q436b, q436c⟩ := isOf hZ hh432 D2.exa
        obtain ⟨_, _, ⟨T436, L436, k436, n436⟩, -, X436, ⟨Lc436, hQ436, l436, y436, z436⟩, st436⟩ := X432.virtualBack hx (y := (⟨"java/lang/String", "equals", "(Ljava/lang/Object;)Z"⟩ : MethodName)) (z := (⟨"java/lang/String", "equals", "(Ljava/lang/Object;)Z"⟩ : MethodName)) hown (mvT hZ (hw _ (List.mem_of_getElem? (i := 39) rfl))) (mvT hZ (hw _ (List.mem_of_getElem? (i := 40) rfl))) (notFace_of_selects (args := #[]) (mvT hZ (hw _ (List.mem_of_getElem? (i := 42) rfl)))) (mvT hZ (hw _ (List.mem_of_getElem? (i := 42) rfl))) (mvT hZ (hw _ (List.mem_of_getElem? (i := 41) rfl))) (by decide) (own_backN (W := 0) (rm_seq l Z a0 hw [] ad2 a1 d2 bs cz h0 n0 Z0 OL D2 B1 SC hcz) hZ (hw _ (List.mem_of_getElem? (i := 43) rfl)) (hw _ (List.mem_of_getElem? (i := 6) rfl)) (by decide) (by decide)) q436a q436c (g := (mkF m 23 #[.val (.ref a1), .val (.ref ar), .val (.ref ar), .val (.int (3 : Int32)), .val (.int (2 : Int32)), .val (.ref ad2)] [(.ref a1), (.ref ad2)])) rfl (by rw [hml]; rfl) (Steps.refl _) (argsL := [(.ref a1)]) (rest := []) (lenOf oo3_pd0 rfl) rfl (by show 2 * 0 + _ ≤ _; exact Nat.le_of_eq rfl) (hb hby oo3_d23) (fun _ _ => ⟨rfl, hh432, Nat.le_of_ble_eq_true rfl, Nat.le_of_ble_eq_true rfl⟩)
        dsimp only [Pt.U, Pt.locs, Pt.cells, Pt.slots] at X436 l436 y436 z436 st436 hQ436
        subst l436 y436 z436
        rw [if_neg he2] at hQ436
        obtain ⟨rfl, N436q, hh436⟩ := hQ436
        refine own_seq st436 ?_
        have N436 := Fr.app N432 N436q
        show OwnGo p e below (T436.setTop (mkF m 26 #[.val (.ref a1), .val (.ref ar), .val (.ref ar), .val (.int (3 : Int32)), .val (.int (2 : Int32)), .val (.ref ad2)] [(.int (0 : Int32))])) _
        refine own_back (fun t k => XS.ifYes X436.here hx rfl (pc0 := 26) (pc' := 31) rfl (hb hby oo3_d26) rfl (Jvm.Free.XT.i0_eq_t (by decide)) (by decide) (by decide) k) ?_
        show OwnGo p e below (T436.setTop (mkF m 31 #[.val (.ref a1), .val (.ref ar), .val (.ref ar), .val (.int (3 : Int32)), .val (.int (2 : Int32)), .val (.ref ad2)] [])) _
        refine own_back (fun t k => XS.iinc X436.here hx rfl (hb hby oo3_d31) rfl (l' := #[.val (.ref a1), .val (.ref ar), .val (.ref ar), .val (.int (3 : Int32)), .val (.int (3 : Int32)), .val (.ref ad2)]) rfl k) ?_
        show OwnGo p e below (T436.setTop (mkF m 34 #[.val (.ref a1), .val (.ref ar), .val (.ref ar), .val (.int (3 : Int32)), .val (.int (3 : Int32)), .val (.ref ad2)] [])) _
        refine own_back (fun t k => XS.goto X436.here hx rfl (pc0 := 34) (pc' := 8) rfl (hb hby oo3_d34) (by decide) (by decide) k) ?_
        show OwnGo p e below (T436.setTop (mkF m 8 #[.val (.ref a1), .val (.ref ar), .val (.ref ar), .val (.int (3 : Int32)), .val (.int (3 : Int32)), .val (.ref ad2)] [])) _
        refine own_back (fun t k => XS.iload X436.here hx rfl (hb hby oo3_d8) rfl k) ?_
        show OwnGo p e below (T436.setTop (mkF m 10 #[.val (.ref a1), .val (.ref ar), .val (.ref ar), .val (.int (3 : Int32)), .val (.int (3 : Int32)), .val (.ref ad2)] [(.int (3 : Int32))])) _
        refine own_back (fun t k => XS.iloadN X436.here hx rfl (hb hby oo3_d10) rfl k) ?_
        show OwnGo p e below (T436.setTop (mkF m 11 #[.val (.ref a1), .val (.ref ar), .val (.ref ar), .val (.int (3 : Int32)), .val (.int (3 : Int32)), .val (.ref ad2)] [(.int (3 : Int32)), (.int (3 : Int32))])) _
        refine own_back (fun t k => XS.icmpYes X436.here hx rfl (pc0 := 11) (pc' := 37) rfl (hb hby oo3_d11) rfl (Jvm.Free.XT.ii_ge_t (by decide)) (by decide) (by decide) k) ?_
        show OwnGo p e below (T436.setTop (mkF m 37 #[.val (.ref a1), .val (.ref ar), .val (.ref ar), .val (.int (3 : Int32)), .val (.int (3 : Int32)), .val (.ref ad2)] [])) _
        refine own_back (fun t k => XS.iconst X436.here hx rfl (hb hby oo3_d37) k) ?_
        show OwnGo p e below (T436.setTop (mkF m 38 #[.val (.ref a1), .val (.ref ar), .val (.ref ar), .val (.int (3 : Int32)), .val (.int (3 : Int32)), .val (.ref ad2)] [(.int (0 : Int32))])) _
        refine own_retN X436 hx Bd.notSynchronized (t := .boolean) (z := (0 : Int32)) Bd.returns (by simp) rfl (hb hby oo3_d38) hh436 (Nat.le_of_ble_eq_true rfl) (Nat.le_of_ble_eq_true rfl) ?_
        exact ⟨by simp [he0, he1, he2], N436, rfl⟩
theorem oo0n_d0 : decode prog_62_method_7_code 0 = .ok (.aload_n 1, 1) := by decide +kernel
theorem oo0n_d1 : decode prog_62_method_7_code 1 = .ok (.astore_n 2, 1) := by decide +kernel
theorem oo0n_d2 : decode prog_62_method_7_code 2 = .ok (.aload_n 2, 1) := by decide +kernel
theorem oo0n_d3 : decode prog_62_method_7_code 3 = .ok (.arraylength, 1) := by decide +kernel
theorem oo0n_d4 : decode prog_62_method_7_code 4 = .ok (.istore_n 3, 1) := by decide +kernel
theorem oo0n_d5 : decode prog_62_method_7_code 5 = .ok (.iconst 0, 1) := by decide +kernel
theorem oo0n_d6 : decode prog_62_method_7_code 6 = .ok (.istore 4, 2) := by decide +kernel
theorem oo0n_d8 : decode prog_62_method_7_code 8 = .ok (.iload 4, 2) := by decide +kernel
theorem oo0n_d10 : decode prog_62_method_7_code 10 = .ok (.iload_n 3, 1) := by decide +kernel
theorem oo0n_d11 : decode prog_62_method_7_code 11 = .ok (.if_icmp .ge 26, 3) := by decide +kernel
theorem oo0n_d37 : decode prog_62_method_7_code 37 = .ok (.iconst 0, 1) := by decide +kernel
theorem oo0n_d38 : decode prog_62_method_7_code 38 = .ok (.ireturn, 1) := by decide +kernel
theorem oo0n_pn : plainName "com/example/lease/lease/cli/OptionValues" = true := by first | (simp [plainName, overriddenIn]; done) | decide +kernel
theorem oo0n_ef (m : MethodId) (x1 : Addr) : entryFrame m #[.null, (.ref x1)] 6 = mkF m 0 #[.val .null, .val (.ref x1), .unset, .unset, .unset, .unset] [] := by first | (simp [entryFrame, mkF, argsToLocals, Value.category]; done) | rfl
set_option maxRecDepth 65536 in
set_option maxHeartbeats 40000000 in
theorem rm_oo0n (l : Launch) (Z : State) (a0 : Array Value) (hw : ∀ d ∈ tables_1, d.before a0 Z = true) (ws : List Jvm.Cond) (ar : Addr) (ka : ClassId) (h0 : Heap) (n0 : Nat) (Z0 : n0 ≤ h0.size) (VA : Arv Z h0 ar ka (.object "java/lang/String") (0 : Int32) [] .null) :
    MetFree l (⟨"com/example/lease/lease/cli/OptionValues", "oneOf", "(Ljava/lang/String;[Ljava/lang/String;)Z"⟩ : MethodName) (head1 (Jvm.Cond.code (⟨"com/example/lease/lease/cli/OptionValues", "oneOf", "(Ljava/lang/String;[Ljava/lang/String;)Z"⟩ : MethodName) prog_62_method_7_code 6 (some .boolean) :: ws) ({ frames := 1, cells := 0, slots := 0, locals := 20 } : Room)) (fun a U => a = #[.null, (.ref ar)] ∧ Z.Warmed39 U.vm ∧ U.heap = h0) (fun _ _ _ _ _ => True) (fun _ U o U' => OwnEnd U (fun v h L => v = some (.int 0) ∧ Fr n0 L ∧ h = h0) ({ frames := 1, cells := 0, slots := 0, locals := 20 } : Room).cells ({ frames := 1, cells := 0, slots := 0, locals := 20 } : Room).slots o U') := by
  refine MetFree.of_bodySF (plainFor_of_name oo0n_pn) hisR ?_
  intro p e s m args below meth c s₁ Bd hml0 hP hK
  obtain ⟨rfl, hZ, hh⟩ := hP
  have hx := Bd.exec
  have hby := Bd.bytes
  have hml : c.maxLocals = 6 := hml0
  have hown : s.vm.findClass "com/example/lease/lease/cli/OptionValues" = some m.cls := findClass_of_methodNamed Bd.named
  have hnm := (name_of_methodNamed Bd.named Bd.method).1
  have X0 : Stand p l e ({ frames := 1, cells := 0, slots := 0, locals := 20 } : Room) s m #[.null, (.ref ar)] below meth c s₁ [] 0 0 := Stand.of_body Bd
  have e0 : s₁.heap = h0 := by rw [← hh, Bd.state]; rfl
  have N0 := Fr.nil n0
  have KP0 := Keep.refl h0 []
  refine own_go (Q := (OwnEnd s (fun v h L => v = some (.int 0) ∧ Fr n0 L ∧ h = h0) ({ frames := 1, cells := 0, slots := 0, locals := 20 } : Room).cells ({ frames := 1, cells := 0, slots := 0, locals := 20 } : Room).slots)) ?_
  refine own_back (fun t k => castTop (oo0n_ef m ar) k) ?_
  show OwnGo p e below (s₁.setTop (mkF m 0 #[.val .null, .val (.ref ar), .unset, .unset, .unset, .unset] [])) _
  refine own_back (fun t k => XS.aloadN X0.here hx rfl (hb hby oo0n_d0) rfl rfl k) ?_
  show OwnGo p e below (s₁.setTop (mkF m 1 #[.val .null, .val (.ref ar), .unset, .unset, .unset, .unset] [(.ref ar)])) _
  refine own_back (fun t k => XS.astoreN X0.here hx rfl (hb hby oo0n_d1) rfl rfl (l' := #[.val .null, .val (.ref ar), .val (.ref ar), .unset, .unset, .unset]) rfl k) ?_
  show OwnGo p e below (s₁.setTop (mkF m 2 #[.val .null, .val (.ref ar), .val (.ref ar), .unset, .unset, .unset] [])) _
  refine own_back (fun t k => XS.aloadN X0.here hx rfl (hb hby oo0n_d2) rfl rfl k) ?_
  show OwnGo p e below (s₁.setTop (mkF m 3 #[.val .null, .val (.ref ar), .val (.ref ar), .unset, .unset, .unset] [(.ref ar)])) _
  obtain ⟨c437, A437, q437, S437, M437, H437, U437⟩ := id VA
  refine own_back (fun t k => X0.arraylength hx (own_hat e0 A437.1) (State.isArrayOf_alike hZ.alike A437.2.1) (g := (mkF m 3 #[.val .null, .val (.ref ar), .val (.ref ar), .unset, .unset, .unset] [(.ref ar)])) rfl rfl (hb hby oo0n_d3) t k) ?_
  rw [len_of S437 M437]
  show OwnGo p e below (s₁.setTop (mkF m 4 #[.val .null, .val (.ref ar), .val (.ref ar), .unset, .unset, .unset] [(.int (0 : Int32))])) _
  refine own_back (fun t k => XS.istoreN X0.here hx rfl (hb hby oo0n_d4) rfl (l' := #[.val .null, .val (.ref ar), .val (.ref ar), .val (.int (0 : Int32)), .unset, .unset]) rfl k) ?_
  show OwnGo p e below (s₁.setTop (mkF m 5 #[.val .null, .val (.ref ar), .val (.ref ar), .val (.int (0 : Int32)), .unset, .unset] [])) _
  refine own_back (fun t k => XS.iconst X0.here hx rfl (hb hby oo0n_d5) k) ?_
  show OwnGo p e below (s₁.setTop (mkF m 6 #[.val .null, .val (.ref ar), .val (.ref ar), .val (.int (0 : Int32)), .unset, .unset] [(.int (0 : Int32))])) _
  refine own_back (fun t k => XS.istore X0.here hx rfl (hb hby oo0n_d6) rfl (l' := #[.val .null, .val (.ref ar), .val (.ref ar), .val (.int (0 : Int32)), .val (.int (0 : Int32)), .unset]) rfl k) ?_
  show OwnGo p e below (s₁.setTop (mkF m 8 #[.val .null, .val (.ref ar), .val (.ref ar), .val (.int (0 : Int32)), .val (.int (0 : Int32)), .unset] [])) _
  refine own_back (fun t k => XS.iload X0.here hx rfl (hb hby oo0n_d8) rfl k) ?_
  show OwnGo p e below (s₁.setTop (mkF m 10 #[.val .null, .val (.ref ar), .val (.ref ar), .val (.int (0 : Int32)), .val (.int (0 : Int32)), .unset] [(.int (0 : Int32))])) _
  refine own_back (fun t k => XS.iloadN X0.here hx rfl (hb hby oo0n_d10) rfl k) ?_
  show OwnGo p e below (s₁.setTop (mkF m 11 #[.val .null, .val (.ref ar), .val (.ref ar), .val (.int (0 : Int32)), .val (.int (0 : Int32)), .unset] [(.int (0 : Int32)), (.int (0 : Int32))])) _
  refine own_back (fun t k => XS.icmpYes X0.here hx rfl (pc0 := 11) (pc' := 37) rfl (hb hby oo0n_d11) rfl (Jvm.Free.XT.ii_ge_t (by decide)) (by decide) (by decide) k) ?_
  show OwnGo p e below (s₁.setTop (mkF m 37 #[.val .null, .val (.ref ar), .val (.ref ar), .val (.int (0 : Int32)), .val (.int (0 : Int32)), .unset] [])) _
  refine own_back (fun t k => XS.iconst X0.here hx rfl (hb hby oo0n_d37) k) ?_
  show OwnGo p e below (s₁.setTop (mkF m 38 #[.val .null, .val (.ref ar), .val (.ref ar), .val (.int (0 : Int32)), .val (.int (0 : Int32)), .unset] [(.int (0 : Int32))])) _
  refine own_retN X0 hx Bd.notSynchronized (t := .boolean) (z := (0 : Int32)) Bd.returns (by simp) rfl (hb hby oo0n_d38) e0 (Nat.le_of_ble_eq_true rfl) (Nat.le_of_ble_eq_true rfl) ?_
  exact ⟨rfl, N0, rfl⟩
theorem oo1n_d0 : decode prog_62_method_7_code 0 = .ok (.aload_n 1, 1) := by decide +kernel
theorem oo1n_d1 : decode prog_62_method_7_code 1 = .ok (.astore_n 2, 1) := by decide +kernel
theorem oo1n_d2 : decode prog_62_method_7_code 2 = .ok (.aload_n 2, 1) := by decide +kernel
theorem oo1n_d3 : decode prog_62_method_7_code 3 = .ok (.arraylength, 1) := by decide +kernel
theorem oo1n_d4 : decode prog_62_method_7_code 4 = .ok (.istore_n 3, 1) := by decide +kernel
theorem oo1n_d5 : decode prog_62_method_7_code 5 = .ok (.iconst 0, 1) := by decide +kernel
theorem oo1n_d6 : decode prog_62_method_7_code 6 = .ok (.istore 4, 2) := by decide +kernel
theorem oo1n_d8 : decode prog_62_method_7_code 8 = .ok (.iload 4, 2) := by decide +kernel
theorem oo1n_d10 : decode prog_62_method_7_code 10 = .ok (.iload_n 3, 1) := by decide +kernel
theorem oo1n_d11 : decode prog_62_method_7_code 11 = .ok (.if_icmp .ge 26, 3) := by decide +kernel
theorem oo1n_d14 : decode prog_62_method_7_code 14 = .ok (.aload_n 2, 1) := by decide +kernel
theorem oo1n_d15 : decode prog_62_method_7_code 15 = .ok (.iload 4, 2) := by decide +kernel
theorem oo1n_d17 : decode prog_62_method_7_code 17 = .ok (.aaload, 1) := by decide +kernel
theorem oo1n_d18 : decode prog_62_method_7_code 18 = .ok (.astore 5, 2) := by decide +kernel
theorem oo1n_d20 : decode prog_62_method_7_code 20 = .ok (.aload 5, 2) := by decide +kernel
theorem oo1n_d22 : decode prog_62_method_7_code 22 = .ok (.aload_n 0, 1) := by decide +kernel
theorem oo1n_d23 : decode prog_62_method_7_code 23 = .ok (.invokevirtual 45, 3) := by decide +kernel
theorem oo1n_d26 : decode prog_62_method_7_code 26 = .ok (.ifCond .eq 5, 3) := by decide +kernel
theorem oo1n_d31 : decode prog_62_method_7_code 31 = .ok (.iinc 4 1, 3) := by decide +kernel
theorem oo1n_d34 : decode prog_62_method_7_code 34 = .ok (.goto (-26), 3) := by decide +kernel
theorem oo1n_d37 : decode prog_62_method_7_code 37 = .ok (.iconst 0, 1) := by decide +kernel
theorem oo1n_d38 : decode prog_62_method_7_code 38 = .ok (.ireturn, 1) := by decide +kernel
theorem oo1n_pn : plainName "com/example/lease/lease/cli/OptionValues" = true := by first | (simp [plainName, overriddenIn]; done) | decide +kernel
theorem oo1n_pd0 : parseMethodDescriptor "(Ljava/lang/Object;)Z" = some ⟨[(.object "java/lang/Object")], some .boolean⟩ := by decide +kernel
theorem oo1n_ef (m : MethodId) (x1 : Addr) : entryFrame m #[.null, (.ref x1)] 6 = mkF m 0 #[.val .null, .val (.ref x1), .unset, .unset, .unset, .unset] [] := by first | (simp [entryFrame, mkF, argsToLocals, Value.category]; done) | rfl
set_option maxRecDepth 65536 in
set_option maxHeartbeats 40000000 in
theorem rm_oo1n (l : Launch) (Z : State) (a0 : Array Value) (hw : ∀ d ∈ tables_1, d.before a0 Z = true) (ws : List Jvm.Cond) (ar : Addr) (ka : ClassId) (ad0 : Addr) (d0 : List Int32) (h0 : Heap) (n0 : Nat) (Z0 : n0 ≤ h0.size) (VA : Arv Z h0 ar ka (.object "java/lang/String") (1 : Int32) [.ref ad0] .null) (D0 : OwnStr Z h0 ad0 d0) :
    MetFree l (⟨"com/example/lease/lease/cli/OptionValues", "oneOf", "(Ljava/lang/String;[Ljava/lang/String;)Z"⟩ : MethodName) (head1 (Jvm.Cond.code (⟨"com/example/lease/lease/cli/OptionValues", "oneOf", "(Ljava/lang/String;[Ljava/lang/String;)Z"⟩ : MethodName) prog_62_method_7_code 6 (some .boolean) :: ws) ({ frames := 1, cells := 0, slots := 0, locals := 20 } : Room)) (fun a U => a = #[.null, (.ref ar)] ∧ Z.Warmed39 U.vm ∧ U.heap = h0) (fun _ _ _ _ _ => True) (fun _ U o U' => OwnEnd U (fun v h L => v = some (.int 0) ∧ Fr n0 L ∧ h = h0) ({ frames := 1, cells := 0, slots := 0, locals := 20 } : Room).cells ({ frames := 1, cells := 0, slots := 0, locals := 20 } : Room).slots o U') := by
  refine MetFree.of_bodySF (plainFor_of_name oo1n_pn) hisR ?_
  intro p e s m args below meth c s₁ Bd hml0 hP hK
  obtain ⟨rfl, hZ, hh⟩ := hP
  have hx := Bd.exec
  have hby := Bd.bytes
  have hml : c.maxLocals = 6 := hml0
  have hown : s.vm.findClass "com/example/lease/lease/cli/OptionValues" = some m.cls := findClass_of_methodNamed Bd.named
  have hnm := (name_of_methodNamed Bd.named Bd.method).1
  have X0 : Stand p l e ({ frames := 1, cells := 0, slots := 0, locals := 20 } : Room) s m #[.null, (.ref ar)] below meth c s₁ [] 0 0 := Stand.of_body Bd
  have e0 : s₁.heap = h0 := by rw [← hh, Bd.state]; rfl
  have N0 := Fr.nil n0
  have KP0 := Keep.refl h0 []
  refine own_go (Q := (OwnEnd s (fun v h L => v = some (.int 0) ∧ Fr n0 L ∧ h = h0) ({ frames := 1, cells := 0, slots := 0, locals := 20 } : Room).cells ({ frames := 1, cells := 0, slots := 0, locals := 20 } : Room).slots)) ?_
  refine own_back (fun t k => castTop (oo1n_ef m ar) k) ?_
  show OwnGo p e below (s₁.setTop (mkF m 0 #[.val .null, .val (.ref ar), .unset, .unset, .unset, .unset] [])) _
  refine own_back (fun t k => XS.aloadN X0.here hx rfl (hb hby oo1n_d0) rfl rfl k) ?_
  show OwnGo p e below (s₁.setTop (mkF m 1 #[.val .null, .val (.ref ar), .unset, .unset, .unset, .unset] [(.ref ar)])) _
  refine own_back (fun t k => XS.astoreN X0.here hx rfl (hb hby oo1n_d1) rfl rfl (l' := #[.val .null, .val (.ref ar), .val (.ref ar), .unset, .unset, .unset]) rfl k) ?_
  show OwnGo p e below (s₁.setTop (mkF m 2 #[.val .null, .val (.ref ar), .val (.ref ar), .unset, .unset, .unset] [])) _
  refine own_back (fun t k => XS.aloadN X0.here hx rfl (hb hby oo1n_d2) rfl rfl k) ?_
  show OwnGo p e below (s₁.setTop (mkF m 3 #[.val .null, .val (.ref ar), .val (.ref ar), .unset, .unset, .unset] [(.ref ar)])) _
  obtain ⟨c438, A438, q438, S438, M438, H438, U438⟩ := id VA
  refine own_back (fun t k => X0.arraylength hx (own_hat e0 A438.1) (State.isArrayOf_alike hZ.alike A438.2.1) (g := (mkF m 3 #[.val .null, .val (.ref ar), .val (.ref ar), .unset, .unset, .unset] [(.ref ar)])) rfl rfl (hb hby oo1n_d3) t k) ?_
  rw [len_of S438 M438]
  show OwnGo p e below (s₁.setTop (mkF m 4 #[.val .null, .val (.ref ar), .val (.ref ar), .unset, .unset, .unset] [(.int (1 : Int32))])) _
  refine own_back (fun t k => XS.istoreN X0.here hx rfl (hb hby oo1n_d4) rfl (l' := #[.val .null, .val (.ref ar), .val (.ref ar), .val (.int (1 : Int32)), .unset, .unset]) rfl k) ?_
  show OwnGo p e below (s₁.setTop (mkF m 5 #[.val .null, .val (.ref ar), .val (.ref ar), .val (.int (1 : Int32)), .unset, .unset] [])) _
  refine own_back (fun t k => XS.iconst X0.here hx rfl (hb hby oo1n_d5) k) ?_
  show OwnGo p e below (s₁.setTop (mkF m 6 #[.val .null, .val (.ref ar), .val (.ref ar), .val (.int (1 : Int32)), .unset, .unset] [(.int (0 : Int32))])) _
  refine own_back (fun t k => XS.istore X0.here hx rfl (hb hby oo1n_d6) rfl (l' := #[.val .null, .val (.ref ar), .val (.ref ar), .val (.int (1 : Int32)), .val (.int (0 : Int32)), .unset]) rfl k) ?_
  show OwnGo p e below (s₁.setTop (mkF m 8 #[.val .null, .val (.ref ar), .val (.ref ar), .val (.int (1 : Int32)), .val (.int (0 : Int32)), .unset] [])) _
  refine own_back (fun t k => XS.iload X0.here hx rfl (hb hby oo1n_d8) rfl k) ?_
  show OwnGo p e below (s₁.setTop (mkF m 10 #[.val .null, .val (.ref ar), .val (.ref ar), .val (.int (1 : Int32)), .val (.int (0 : Int32)), .unset] [(.int (0 : Int32))])) _
  refine own_back (fun t k => XS.iloadN X0.here hx rfl (hb hby oo1n_d10) rfl k) ?_
  show OwnGo p e below (s₁.setTop (mkF m 11 #[.val .null, .val (.ref ar), .val (.ref ar), .val (.int (1 : Int32)), .val (.int (0 : Int32)), .unset] [(.int (1 : Int32)), (.int (0 : Int32))])) _
  refine own_back (fun t k => XS.icmpNo X0.here hx rfl (hb hby oo1n_d11) rfl (Jvm.Free.XT.ii_ge_f (by decide)) k) ?_
  show OwnGo p e below (s₁.setTop (mkF m 14 #[.val .null, .val (.ref ar), .val (.ref ar), .val (.int (1 : Int32)), .val (.int (0 : Int32)), .unset] [])) _
  refine own_back (fun t k => XS.aloadN X0.here hx rfl (hb hby oo1n_d14) rfl rfl k) ?_
  show OwnGo p e below (s₁.setTop (mkF m 15 #[.val .null, .val (.ref ar), .val (.ref ar), .val (.int (1 : Int32)), .val (.int (0 : Int32)), .unset] [(.ref ar)])) _
  refine own_back (fun t k => XS.iload X0.here hx rfl (hb hby oo1n_d15) rfl k) ?_
  show OwnGo p e below (s₁.setTop (mkF m 17 #[.val .null, .val (.ref ar), .val (.ref ar), .val (.int (1 : Int32)), .val (.int (0 : Int32)), .unset] [(.int (0 : Int32)), (.ref ar)])) _
  obtain ⟨c439, A439, q439, S439, M439, H439, U439⟩ := id VA
  have ib440 : ¬ ((0 : Int32) < 0 ∨ c439.slots.size ≤ ((0 : Int32)).toNatClampNeg) := (inb_of S439 ⟨by decide, by decide⟩)
  refine own_back (fun t k => X0.aaload hx (j := (0 : Int32)) (v := (.ref ad0)) (own_hat e0 A439.1) (State.isArrayOf_alike hZ.alike A439.2.1) rfl A439.2.2 ib440 (H439.at ib440 rfl) (g := (mkF m 17 #[.val .null, .val (.ref ar), .val (.ref ar), .val (.int (1 : Int32)), .val (.int (0 : Int32)), .unset] [(.int (0 : Int32)), (.ref ar)])) rfl rfl (hb hby oo1n_d17) t k) ?_
  show OwnGo p e below (s₁.setTop (mkF m 18 #[.val .null, .val (.ref ar), .val (.ref ar), .val (.int (1 : Int32)), .val (.int (0 : Int32)), .unset] [(.ref ad0)])) _
  refine own_back (fun t k => XS.astore X0.here hx rfl (hb hby oo1n_d18) rfl rfl (l' := #[.val .null, .val (.ref ar), .val (.ref ar), .val (.int (1 : Int32)), .val (.int (0 : Int32)), .val (.ref ad0)]) rfl k) ?_
  show OwnGo p e below (s₁.setTop (mkF m 20 #[.val .null, .val (.ref ar), .val (.ref ar), .val (.int (1 : Int32)), .val (.int (0 : Int32)), .val (.ref ad0)] [])) _
  refine own_back (fun t k => XS.aload X0.here hx rfl (hb hby oo1n_d20) rfl rfl k) ?_
  show OwnGo p e below (s₁.setTop (mkF m 22 #[.val .null, .val (.ref ar), .val (.ref ar), .val (.int (1 : Int32)), .val (.int (0 : Int32)), .val (.ref ad0)] [(.ref ad0)])) _
  refine own_back (fun t k => XS.aloadN X0.here hx rfl (hb hby oo1n_d22) rfl rfl k) ?_
  show OwnGo p e below (s₁.setTop (mkF m 23 #[.val .null, .val (.ref ar), .val (.ref ar), .val (.int (1 : Int32)), .val (.int (0 : Int32)), .val (.ref ad0)] [.null, (.ref ad0)])) _
  obtain ⟨cq441, kq441, q441a, q441b, q441c⟩ := isOf hZ e0 D0.exa
  obtain ⟨_, _, ⟨T441, L441, k441, n441⟩, -, X441, ⟨Lc441, hQ441, l441, y441, z441⟩, st441⟩ := X0.virtualBack hx (y := (⟨"java/lang/String", "equals", "(Ljava/lang/Object;)Z"⟩ : MethodName)) (z := (⟨"java/lang/String", "equals", "(Ljava/lang/Object;)Z"⟩ : MethodName)) hown (mvT hZ (hw _ (List.mem_of_getElem? (i := 39) rfl))) (mvT hZ (hw _ (List.mem_of_getElem? (i := 40) rfl))) (notFace_of_selects (args := #[]) (mvT hZ (hw _ (List.mem_of_getElem? (i := 42) rfl)))) (mvT hZ (hw _ (List.mem_of_getElem? (i := 42) rfl))) (mvT hZ (hw _ (List.mem_of_getElem? (i := 41) rfl))) (by decide) (own_backN (W := 0) (rm_seqn l Z a0 hw [] ad0 h0 n0 Z0) hZ (hw _ (List.mem_of_getElem? (i := 43) rfl)) (hw _ (List.mem_of_getElem? (i := 6) rfl)) (by decide) (by decide)) q441a q441c (g := (mkF m 23 #[.val .null, .val (.ref ar), .val (.ref ar), .val (.int (1 : Int32)), .val (.int (0 : Int32)), .val (.ref ad0)] [.null, (.ref ad0)])) rfl (by rw [hml]; rfl) (Steps.refl _) (argsL := [.null]) (rest := []) (lenOf oo1n_pd0 rfl) rfl (by show 2 * 0 + _ ≤ _; exact Nat.le_of_eq rfl) (hb hby oo1n_d23) (fun _ _ => ⟨rfl, e0, Nat.le_of_ble_eq_true rfl, Nat.le_of_ble_eq_true rfl⟩)
  dsimp only [Pt.U, Pt.locs, Pt.cells, Pt.slots] at X441 l441 y441 z441 st441 hQ441
  subst l441 y441 z441
  obtain ⟨rfl, N441q, hh441⟩ := hQ441
  refine own_seq st441 ?_
  have N441 := Fr.app N0 N441q
  show OwnGo p e below (T441.setTop (mkF m 26 #[.val .null, .val (.ref ar), .val (.ref ar), .val (.int (1 : Int32)), .val (.int (0 : Int32)), .val (.ref ad0)] [(.int (0 : Int32))])) _
  refine own_back (fun t k => XS.ifYes X441.here hx rfl (pc0 := 26) (pc' := 31) rfl (hb hby oo1n_d26) rfl (Jvm.Free.XT.i0_eq_t (by decide)) (by decide) (by decide) k) ?_
  show OwnGo p e below (T441.setTop (mkF m 31 #[.val .null, .val (.ref ar), .val (.ref ar), .val (.int (1 : Int32)), .val (.int (0 : Int32)), .val (.ref ad0)] [])) _
  refine own_back (fun t k => XS.iinc X441.here hx rfl (hb hby oo1n_d31) rfl (l' := #[.val .null, .val (.ref ar), .val (.ref ar), .val (.int (1 : Int32)), .val (.int (1 : Int32)), .val (.ref ad0)]) rfl k) ?_
  show OwnGo p e below (T441.setTop (mkF m 34 #[.val .null, .val (.ref ar), .val (.ref ar), .val (.int (1 : Int32)), .val (.int (1 : Int32)), .val (.ref ad0)] [])) _
  refine own_back (fun t k => XS.goto X441.here hx rfl (pc0 := 34) (pc' := 8) rfl (hb hby oo1n_d34) (by decide) (by decide) k) ?_
  show OwnGo p e below (T441.setTop (mkF m 8 #[.val .null, .val (.ref ar), .val (.ref ar), .val (.int (1 : Int32)), .val (.int (1 : Int32)), .val (.ref ad0)] [])) _
  refine own_back (fun t k => XS.iload X441.here hx rfl (hb hby oo1n_d8) rfl k) ?_
  show OwnGo p e below (T441.setTop (mkF m 10 #[.val .null, .val (.ref ar), .val (.ref ar), .val (.int (1 : Int32)), .val (.int (1 : Int32)), .val (.ref ad0)] [(.int (1 : Int32))])) _
  refine own_back (fun t k => XS.iloadN X441.here hx rfl (hb hby oo1n_d10) rfl k) ?_
  show OwnGo p e below (T441.setTop (mkF m 11 #[.val .null, .val (.ref ar), .val (.ref ar), .val (.int (1 : Int32)), .val (.int (1 : Int32)), .val (.ref ad0)] [(.int (1 : Int32)), (.int (1 : Int32))])) _
  refine own_back (fun t k => XS.icmpYes X441.here hx rfl (pc0 := 11) (pc' := 37) rfl (hb hby oo1n_d11) rfl (Jvm.Free.XT.ii_ge_t (by decide)) (by decide) (by decide) k) ?_
  show OwnGo p e below (T441.setTop (mkF m 37 #[.val .null, .val (.ref ar), .val (.ref ar), .val (.int (1 : Int32)), .val (.int (1 : Int32)), .val (.ref ad0)] [])) _
  refine own_back (fun t k => XS.iconst X441.here hx rfl (hb hby oo1n_d37) k) ?_
  show OwnGo p e below (T441.setTop (mkF m 38 #[.val .null, .val (.ref ar), .val (.ref ar), .val (.int (1 : Int32)), .val (.int (1 : Int32)), .val (.ref ad0)] [(.int (0 : Int32))])) _
  refine own_retN X441 hx Bd.notSynchronized (t := .boolean) (z := (0 : Int32)) Bd.returns (by simp) rfl (hb hby oo1n_d38) hh441 (Nat.le_of_ble_eq_true rfl) (Nat.le_of_ble_eq_true rfl) ?_
  exact ⟨rfl, N441, rfl⟩
theorem oo2n_d0 : decode prog_62_method_7_code 0 = .ok (.aload_n 1, 1) := by decide +kernel
theorem oo2n_d1 : decode prog_62_method_7_code 1 = .ok (.astore_n 2, 1) := by decide +kernel
theorem oo2n_d2 : decode prog_62_method_7_code 2 = .ok (.aload_n 2, 1) := by decide +kernel
theorem oo2n_d3 : decode prog_62_method_7_code 3 = .ok (.arraylength, 1) := by decide +kernel
theorem oo2n_d4 : decode prog_62_method_7_code 4 = .ok (.istore_n 3, 1) := by decide +kernel
theorem oo2n_d5 : decode prog_62_method_7_code 5 = .ok (.iconst 0, 1) := by decide +kernel
theorem oo2n_d6 : decode prog_62_method_7_code 6 = .ok (.istore 4, 2) := by decide +kernel
theorem oo2n_d8 : decode prog_62_method_7_code 8 = .ok (.iload 4, 2) := by decide +kernel
theorem oo2n_d10 : decode prog_62_method_7_code 10 = .ok (.iload_n 3, 1) := by decide +kernel
theorem oo2n_d11 : decode prog_62_method_7_code 11 = .ok (.if_icmp .ge 26, 3) := by decide +kernel
theorem oo2n_d14 : decode prog_62_method_7_code 14 = .ok (.aload_n 2, 1) := by decide +kernel
theorem oo2n_d15 : decode prog_62_method_7_code 15 = .ok (.iload 4, 2) := by decide +kernel
theorem oo2n_d17 : decode prog_62_method_7_code 17 = .ok (.aaload, 1) := by decide +kernel
theorem oo2n_d18 : decode prog_62_method_7_code 18 = .ok (.astore 5, 2) := by decide +kernel
theorem oo2n_d20 : decode prog_62_method_7_code 20 = .ok (.aload 5, 2) := by decide +kernel
theorem oo2n_d22 : decode prog_62_method_7_code 22 = .ok (.aload_n 0, 1) := by decide +kernel
theorem oo2n_d23 : decode prog_62_method_7_code 23 = .ok (.invokevirtual 45, 3) := by decide +kernel
theorem oo2n_d26 : decode prog_62_method_7_code 26 = .ok (.ifCond .eq 5, 3) := by decide +kernel
theorem oo2n_d31 : decode prog_62_method_7_code 31 = .ok (.iinc 4 1, 3) := by decide +kernel
theorem oo2n_d34 : decode prog_62_method_7_code 34 = .ok (.goto (-26), 3) := by decide +kernel
theorem oo2n_d37 : decode prog_62_method_7_code 37 = .ok (.iconst 0, 1) := by decide +kernel
theorem oo2n_d38 : decode prog_62_method_7_code 38 = .ok (.ireturn, 1) := by decide +kernel
theorem oo2n_pn : plainName "com/example/lease/lease/cli/OptionValues" = true := by first | (simp [plainName, overriddenIn]; done) | decide +kernel
theorem oo2n_pd0 : parseMethodDescriptor "(Ljava/lang/Object;)Z" = some ⟨[(.object "java/lang/Object")], some .boolean⟩ := by decide +kernel
theorem oo2n_ef (m : MethodId) (x1 : Addr) : entryFrame m #[.null, (.ref x1)] 6 = mkF m 0 #[.val .null, .val (.ref x1), .unset, .unset, .unset, .unset] [] := by first | (simp [entryFrame, mkF, argsToLocals, Value.category]; done) | rfl
set_option maxRecDepth 65536 in
set_option maxHeartbeats 40000000 in
theorem rm_oo2n (l : Launch) (Z : State) (a0 : Array Value) (hw : ∀ d ∈ tables_1, d.before a0 Z = true) (ws : List Jvm.Cond) (ar : Addr) (ka : ClassId) (ad0 : Addr) (ad1 : Addr) (d0 : List Int32) (d1 : List Int32) (h0 : Heap) (n0 : Nat) (Z0 : n0 ≤ h0.size) (VA : Arv Z h0 ar ka (.object "java/lang/String") (2 : Int32) [.ref ad0, .ref ad1] .null) (D0 : OwnStr Z h0 ad0 d0) (D1 : OwnStr Z h0 ad1 d1) :
    MetFree l (⟨"com/example/lease/lease/cli/OptionValues", "oneOf", "(Ljava/lang/String;[Ljava/lang/String;)Z"⟩ : MethodName) (head1 (Jvm.Cond.code (⟨"com/example/lease/lease/cli/OptionValues", "oneOf", "(Ljava/lang/String;[Ljava/lang/String;)Z"⟩ : MethodName) prog_62_method_7_code 6 (some .boolean) :: ws) ({ frames := 1, cells := 0, slots := 0, locals := 20 } : Room)) (fun a U => a = #[.null, (.ref ar)] ∧ Z.Warmed39 U.vm ∧ U.heap = h0) (fun _ _ _ _ _ => True) (fun _ U o U' => OwnEnd U (fun v h L => v = some (.int 0) ∧ Fr n0 L ∧ h = h0) ({ frames := 1, cells := 0, slots := 0, locals := 20 } : Room).cells ({ frames := 1, cells := 0, slots := 0, locals := 20 } : Room).slots o U') := by
  refine MetFree.of_bodySF (plainFor_of_name oo2n_pn) hisR ?_
  intro p e s m args below meth c s₁ Bd hml0 hP hK
  obtain ⟨rfl, hZ, hh⟩ := hP
  have hx := Bd.exec
  have hby := Bd.bytes
  have hml : c.maxLocals = 6 := hml0
  have hown : s.vm.findClass "com/example/lease/lease/cli/OptionValues" = some m.cls := findClass_of_methodNamed Bd.named
  have hnm := (name_of_methodNamed Bd.named Bd.method).1
  have X0 : Stand p l e ({ frames := 1, cells := 0, slots := 0, locals := 20 } : Room) s m #[.null, (.ref ar)] below meth c s₁ [] 0 0 := Stand.of_body Bd
  have e0 : s₁.heap = h0 := by rw [← hh, Bd.state]; rfl
  have N0 := Fr.nil n0
  have KP0 := Keep.refl h0 []
  refine own_go (Q := (OwnEnd s (fun v h L => v = some (.int 0) ∧ Fr n0 L ∧ h = h0) ({ frames := 1, cells := 0, slots := 0, locals := 20 } : Room).cells ({ frames := 1, cells := 0, slots := 0, locals := 20 } : Room).slots)) ?_
  refine own_back (fun t k => castTop (oo2n_ef m ar) k) ?_
  show OwnGo p e below (s₁.setTop (mkF m 0 #[.val .null, .val (.ref ar), .unset, .unset, .unset, .unset] [])) _
  refine own_back (fun t k => XS.aloadN X0.here hx rfl (hb hby oo2n_d0) rfl rfl k) ?_
  show OwnGo p e below (s₁.setTop (mkF m 1 #[.val .null, .val (.ref ar), .unset, .unset, .unset, .unset] [(.ref ar)])) _
  refine own_back (fun t k => XS.astoreN X0.here hx rfl (hb hby oo2n_d1) rfl rfl (l' := #[.val .null, .val (.ref ar), .val (.ref ar), .unset, .unset, .unset]) rfl k) ?_
  show OwnGo p e below (s₁.setTop (mkF m 2 #[.val .null, .val (.ref ar), .val (.ref ar), .unset, .unset, .unset] [])) _
  refine own_back (fun t k => XS.aloadN X0.here hx rfl (hb hby oo2n_d2) rfl rfl k) ?_
  show OwnGo p e below (s₁.setTop (mkF m 3 #[.val .null, .val (.ref ar), .val (.ref ar), .unset, .unset, .unset] [(.ref ar)])) _
  obtain ⟨c442, A442, q442, S442, M442, H442, U442⟩ := id VA
  refine own_back (fun t k => X0.arraylength hx (own_hat e0 A442.1) (State.isArrayOf_alike hZ.alike A442.2.1) (g := (mkF m 3 #[.val .null, .val (.ref ar), .val (.ref ar), .unset, .unset, .unset] [(.ref ar)])) rfl rfl (hb hby oo2n_d3) t k) ?_
  rw [len_of S442 M442]
  show OwnGo p e below (s₁.setTop (mkF m 4 #[.val .null, .val (.ref ar), .val (.ref ar), .unset, .unset, .unset] [(.int (2 : Int32))])) _
  refine own_back (fun t k => XS.istoreN X0.here hx rfl (hb hby oo2n_d4) rfl (l' := #[.val .null, .val (.ref ar), .val (.ref ar), .val (.int (2 : Int32)), .unset, .unset]) rfl k) ?_
  show OwnGo p e below (s₁.setTop (mkF m 5 #[.val .null, .val (.ref ar), .val (.ref ar), .val (.int (2 : Int32)), .unset, .unset] [])) _
  refine own_back (fun t k => XS.iconst X0.here hx rfl (hb hby oo2n_d5) k) ?_
  show OwnGo p e below (s₁.setTop (mkF m 6 #[.val .null, .val (.ref ar), .val (.ref ar), .val (.int (2 : Int32)), .unset, .unset] [(.int (0 : Int32))])) _
  refine own_back (fun t k => XS.istore X0.here hx rfl (hb hby oo2n_d6) rfl (l' := #[.val .null, .val (.ref ar), .val (.ref ar), .val (.int (2 : Int32)), .val (.int (0 : Int32)), .unset]) rfl k) ?_
  show OwnGo p e below (s₁.setTop (mkF m 8 #[.val .null, .val (.ref ar), .val (.ref ar), .val (.int (2 : Int32)), .val (.int (0 : Int32)), .unset] [])) _
  refine own_back (fun t k => XS.iload X0.here hx rfl (hb hby oo2n_d8) rfl k) ?_
  show OwnGo p e below (s₁.setTop (mkF m 10 #[.val .null, .val (.ref ar), .val (.ref ar), .val (.int (2 : Int32)), .val (.int (0 : Int32)), .unset] [(.int (0 : Int32))])) _
  refine own_back (fun t k => XS.iloadN X0.here hx rfl (hb hby oo2n_d10) rfl k) ?_
  show OwnGo p e below (s₁.setTop (mkF m 11 #[.val .null, .val (.ref ar), .val (.ref ar), .val (.int (2 : Int32)), .val (.int (0 : Int32)), .unset] [(.int (2 : Int32)), (.int (0 : Int32))])) _
  refine own_back (fun t k => XS.icmpNo X0.here hx rfl (hb hby oo2n_d11) rfl (Jvm.Free.XT.ii_ge_f (by decide)) k) ?_
  show OwnGo p e below (s₁.setTop (mkF m 14 #[.val .null, .val (.ref ar), .val (.ref ar), .val (.int (2 : Int32)), .val (.int (0 : Int32)), .unset] [])) _
  refine own_back (fun t k => XS.aloadN X0.here hx rfl (hb hby oo2n_d14) rfl rfl k) ?_
  show OwnGo p e below (s₁.setTop (mkF m 15 #[.val .null, .val (.ref ar), .val (.ref ar), .val (.int (2 : Int32)), .val (.int (0 : Int32)), .unset] [(.ref ar)])) _
  refine own_back (fun t k => XS.iload X0.here hx rfl (hb hby oo2n_d15) rfl k) ?_
  show OwnGo p e below (s₁.setTop (mkF m 17 #[.val .null, .val (.ref ar), .val (.ref ar), .val (.int (2 : Int32)), .val (.int (0 : Int32)), .unset] [(.int (0 : Int32)), (.ref ar)])) _
  obtain ⟨c443, A443, q443, S443, M443, H443, U443⟩ := id VA
  have ib444 : ¬ ((0 : Int32) < 0 ∨ c443.slots.size ≤ ((0 : Int32)).toNatClampNeg) := (inb_of S443 ⟨by decide, by decide⟩)
  refine own_back (fun t k => X0.aaload hx (j := (0 : Int32)) (v := (.ref ad0)) (own_hat e0 A443.1) (State.isArrayOf_alike hZ.alike A443.2.1) rfl A443.2.2 ib444 (H443.at ib444 rfl) (g := (mkF m 17 #[.val .null, .val (.ref ar), .val (.ref ar), .val (.int (2 : Int32)), .val (.int (0 : Int32)), .unset] [(.int (0 : Int32)), (.ref ar)])) rfl rfl (hb hby oo2n_d17) t k) ?_
  show OwnGo p e below (s₁.setTop (mkF m 18 #[.val .null, .val (.ref ar), .val (.ref ar), .val (.int (2 : Int32)), .val (.int (0 : Int32)), .unset] [(.ref ad0)])) _
  refine own_back (fun t k => XS.astore X0.here hx rfl (hb hby oo2n_d18) rfl rfl (l' := #[.val .null, .val (.ref ar), .val (.ref ar), .val (.int (2 : Int32)), .val (.int (0 : Int32)), .val (.ref ad0)]) rfl k) ?_
  show OwnGo p e below (s₁.setTop (mkF m 20 #[.val .null, .val (.ref ar), .val (.ref ar), .val (.int (2 : Int32)), .val (.int (0 : Int32)), .val (.ref ad0)] [])) _
  refine own_back (fun t k => XS.aload X0.here hx rfl (hb hby oo2n_d20) rfl rfl k) ?_
  show OwnGo p e below (s₁.setTop (mkF m 22 #[.val .null, .val (.ref ar), .val (.ref ar), .val (.int (2 : Int32)), .val (.int (0 : Int32)), .val (.ref ad0)] [(.ref ad0)])) _
  refine own_back (fun t k => XS.aloadN X0.here hx rfl (hb hby oo2n_d22) rfl rfl k) ?_
  show OwnGo p e below (s₁.setTop (mkF m 23 #[.val .null, .val (.ref ar), .val (.ref ar), .val (.int (2 : Int32)), .val (.int (0 : Int32)), .val (.ref ad0)] [.null, (.ref ad0)])) _
  obtain ⟨cq445, kq445, q445a, q445b, q445c⟩ := isOf hZ e0 D0.exa
  obtain ⟨_, _, ⟨T445, L445, k445, n445⟩, -, X445, ⟨Lc445, hQ445, l445, y445, z445⟩, st445⟩ := X0.virtualBack hx (y := (⟨"java/lang/String", "equals", "(Ljava/lang/Object;)Z"⟩ : MethodName)) (z := (⟨"java/lang/String", "equals", "(Ljava/lang/Object;)Z"⟩ : MethodName)) hown (mvT hZ (hw _ (List.mem_of_getElem? (i := 39) rfl))) (mvT hZ (hw _ (List.mem_of_getElem? (i := 40) rfl))) (notFace_of_selects (args := #[]) (mvT hZ (hw _ (List.mem_of_getElem? (i := 42) rfl)))) (mvT hZ (hw _ (List.mem_of_getElem? (i := 42) rfl))) (mvT hZ (hw _ (List.mem_of_getElem? (i := 41) rfl))) (by decide) (own_backN (W := 0) (rm_seqn l Z a0 hw [] ad0 h0 n0 Z0) hZ (hw _ (List.mem_of_getElem? (i := 43) rfl)) (hw _ (List.mem_of_getElem? (i := 6) rfl)) (by decide) (by decide)) q445a q445c (g := (mkF m 23 #[.val .null, .val (.ref ar), .val (.ref ar), .val (.int (2 : Int32)), .val (.int (0 : Int32)), .val (.ref ad0)] [.null, (.ref ad0)])) rfl (by rw [hml]; rfl) (Steps.refl _) (argsL := [.null]) (rest := []) (lenOf oo2n_pd0 rfl) rfl (by show 2 * 0 + _ ≤ _; exact Nat.le_of_eq rfl) (hb hby oo2n_d23) (fun _ _ => ⟨rfl, e0, Nat.le_of_ble_eq_true rfl, Nat.le_of_ble_eq_true rfl⟩)
  dsimp only [Pt.U, Pt.locs, Pt.cells, Pt.slots] at X445 l445 y445 z445 st445 hQ445
  subst l445 y445 z445
  obtain ⟨rfl, N445q, hh445⟩ := hQ445
  refine own_seq st445 ?_
  have N445 := Fr.app N0 N445q
  show OwnGo p e below (T445.setTop (mkF m 26 #[.val .null, .val (.ref ar), .val (.ref ar), .val (.int (2 : Int32)), .val (.int (0 : Int32)), .val (.ref ad0)] [(.int (0 : Int32))])) _
  refine own_back (fun t k => XS.ifYes X445.here hx rfl (pc0 := 26) (pc' := 31) rfl (hb hby oo2n_d26) rfl (Jvm.Free.XT.i0_eq_t (by decide)) (by decide) (by decide) k) ?_
  show OwnGo p e below (T445.setTop (mkF m 31 #[.val .null, .val (.ref ar), .val (.ref ar), .val (.int (2 : Int32)), .val (.int (0 : Int32)), .val (.ref ad0)] [])) _
  refine own_back (fun t k => XS.iinc X445.here hx rfl (hb hby oo2n_d31) rfl (l' := #[.val .null, .val (.ref ar), .val (.ref ar), .val (.int (2 : Int32)), .val (.int (1 : Int32)), .val (.ref ad0)]) rfl k) ?_
  show OwnGo p e below (T445.setTop (mkF m 34 #[.val .null, .val (.ref ar), .val (.ref ar), .val (.int (2 : Int32)), .val (.int (1 : Int32)), .val (.ref ad0)] [])) _
  refine own_back (fun t k => XS.goto X445.here hx rfl (pc0 := 34) (pc' := 8) rfl (hb hby oo2n_d34) (by decide) (by decide) k) ?_
  show OwnGo p e below (T445.setTop (mkF m 8 #[.val .null, .val (.ref ar), .val (.ref ar), .val (.int (2 : Int32)), .val (.int (1 : Int32)), .val (.ref ad0)] [])) _
  refine own_back (fun t k => XS.iload X445.here hx rfl (hb hby oo2n_d8) rfl k) ?_
  show OwnGo p e below (T445.setTop (mkF m 10 #[.val .null, .val (.ref ar), .val (.ref ar), .val (.int (2 : Int32)), .val (.int (1 : Int32)), .val (.ref ad0)] [(.int (1 : Int32))])) _
  refine own_back (fun t k => XS.iloadN X445.here hx rfl (hb hby oo2n_d10) rfl k) ?_
  show OwnGo p e below (T445.setTop (mkF m 11 #[.val .null, .val (.ref ar), .val (.ref ar), .val (.int (2 : Int32)), .val (.int (1 : Int32)), .val (.ref ad0)] [(.int (2 : Int32)), (.int (1 : Int32))])) _
  refine own_back (fun t k => XS.icmpNo X445.here hx rfl (hb hby oo2n_d11) rfl (Jvm.Free.XT.ii_ge_f (by decide)) k) ?_
  show OwnGo p e below (T445.setTop (mkF m 14 #[.val .null, .val (.ref ar), .val (.ref ar), .val (.int (2 : Int32)), .val (.int (1 : Int32)), .val (.ref ad0)] [])) _
  refine own_back (fun t k => XS.aloadN X445.here hx rfl (hb hby oo2n_d14) rfl rfl k) ?_
  show OwnGo p e below (T445.setTop (mkF m 15 #[.val .null, .val (.ref ar), .val (.ref ar), .val (.int (2 : Int32)), .val (.int (1 : Int32)), .val (.ref ad0)] [(.ref ar)])) _
  refine own_back (fun t k => XS.iload X445.here hx rfl (hb hby oo2n_d15) rfl k) ?_
  show OwnGo p e below (T445.setTop (mkF m 17 #[.val .null, .val (.ref ar), .val (.ref ar), .val (.int (2 : Int32)), .val (.int (1 : Int32)), .val (.ref ad0)] [(.int (1 : Int32)), (.ref ar)])) _
  obtain ⟨c446, A446, q446, S446, M446, H446, U446⟩ := id VA
  have ib447 : ¬ ((1 : Int32) < 0 ∨ c446.slots.size ≤ ((1 : Int32)).toNatClampNeg) := (inb_of S446 ⟨by decide, by decide⟩)
  refine own_back (fun t k => X445.aaload hx (j := (1 : Int32)) (v := (.ref ad1)) (own_hat hh445 A446.1) (State.isArrayOf_alike hZ.alike A446.2.1) rfl A446.2.2 ib447 (H446.at ib447 rfl) (g := (mkF m 17 #[.val .null, .val (.ref ar), .val (.ref ar), .val (.int (2 : Int32)), .val (.int (1 : Int32)), .val (.ref ad0)] [(.int (1 : Int32)), (.ref ar)])) rfl rfl (hb hby oo2n_d17) t k) ?_
  show OwnGo p e below (T445.setTop (mkF m 18 #[.val .null, .val (.ref ar), .val (.ref ar), .val (.int (2 : Int32)), .val (.int (1 : Int32)), .val (.ref ad0)] [(.ref ad1)])) _
  refine own_back (fun t k => XS.astore X445.here hx rfl (hb hby oo2n_d18) rfl rfl (l' := #[.val .null, .val (.ref ar), .val (.ref ar), .val (.int (2 : Int32)), .val (.int (1 : Int32)), .val (.ref ad1)]) rfl k) ?_
  show OwnGo p e below (T445.setTop (mkF m 20 #[.val .null, .val (.ref ar), .val (.ref ar), .val (.int (2 : Int32)), .val (.int (1 : Int32)), .val (.ref ad1)] [])) _
  refine own_back (fun t k => XS.aload X445.here hx rfl (hb hby oo2n_d20) rfl rfl k) ?_
  show OwnGo p e below (T445.setTop (mkF m 22 #[.val .null, .val (.ref ar), .val (.ref ar), .val (.int (2 : Int32)), .val (.int (1 : Int32)), .val (.ref ad1)] [(.ref ad1)])) _
  refine own_back (fun t k => XS.aloadN X445.here hx rfl (hb hby oo2n_d22) rfl rfl k) ?_
  show OwnGo p e below (T445.setTop (mkF m 23 #[.val .null, .val (.ref ar), .val (.ref ar), .val (.int (2 : Int32)), .val (.int (1 : Int32)), .val (.ref ad1)] [.null, (.ref ad1)])) _
  obtain ⟨cq448, kq448, q448a, q448b, q448c⟩ := isOf hZ hh445 D1.exa
  obtain ⟨_, _, ⟨T448, L448, k448, n448⟩, -, X448, ⟨Lc448, hQ448, l448, y448, z448⟩, st448⟩ := X445.virtualBack hx (y := (⟨"java/lang/String", "equals", "(Ljava/lang/Object;)Z"⟩ : MethodName)) (z := (⟨"java/lang/String", "equals", "(Ljava/lang/Object;)Z"⟩ : MethodName)) hown (mvT hZ (hw _ (List.mem_of_getElem? (i := 39) rfl))) (mvT hZ (hw _ (List.mem_of_getElem? (i := 40) rfl))) (notFace_of_selects (args := #[]) (mvT hZ (hw _ (List.mem_of_getElem? (i := 42) rfl)))) (mvT hZ (hw _ (List.mem_of_getElem? (i := 42) rfl))) (mvT hZ (hw _ (List.mem_of_getElem? (i := 41) rfl))) (by decide) (own_backN (W := 0) (rm_seqn l Z a0 hw [] ad1 h0 n0 Z0) hZ (hw _ (List.mem_of_getElem? (i := 43) rfl)) (hw _ (List.mem_of_getElem? (i := 6) rfl)) (by decide) (by decide)) q448a q448c (g := (mkF m 23 #[.val .null, .val (.ref ar), .val (.ref ar), .val (.int (2 : Int32)), .val (.int (1 : Int32)), .val (.ref ad1)] [.null, (.ref ad1)])) rfl (by rw [hml]; rfl) (Steps.refl _) (argsL := [.null]) (rest := []) (lenOf oo2n_pd0 rfl) rfl (by show 2 * 0 + _ ≤ _; exact Nat.le_of_eq rfl) (hb hby oo2n_d23) (fun _ _ => ⟨rfl, hh445, Nat.le_of_ble_eq_true rfl, Nat.le_of_ble_eq_true rfl⟩)
  dsimp only [Pt.U, Pt.locs, Pt.cells, Pt.slots] at X448 l448 y448 z448 st448 hQ448
  subst l448 y448 z448
  obtain ⟨rfl, N448q, hh448⟩ := hQ448
  refine own_seq st448 ?_
  have N448 := Fr.app N445 N448q
  show OwnGo p e below (T448.setTop (mkF m 26 #[.val .null, .val (.ref ar), .val (.ref ar), .val (.int (2 : Int32)), .val (.int (1 : Int32)), .val (.ref ad1)] [(.int (0 : Int32))])) _
  refine own_back (fun t k => XS.ifYes X448.here hx rfl (pc0 := 26) (pc' := 31) rfl (hb hby oo2n_d26) rfl (Jvm.Free.XT.i0_eq_t (by decide)) (by decide) (by decide) k) ?_
  show OwnGo p e below (T448.setTop (mkF m 31 #[.val .null, .val (.ref ar), .val (.ref ar), .val (.int (2 : Int32)), .val (.int (1 : Int32)), .val (.ref ad1)] [])) _
  refine own_back (fun t k => XS.iinc X448.here hx rfl (hb hby oo2n_d31) rfl (l' := #[.val .null, .val (.ref ar), .val (.ref ar), .val (.int (2 : Int32)), .val (.int (2 : Int32)), .val (.ref ad1)]) rfl k) ?_
  show OwnGo p e below (T448.setTop (mkF m 34 #[.val .null, .val (.ref ar), .val (.ref ar), .val (.int (2 : Int32)), .val (.int (2 : Int32)), .val (.ref ad1)] [])) _
  refine own_back (fun t k => XS.goto X448.here hx rfl (pc0 := 34) (pc' := 8) rfl (hb hby oo2n_d34) (by decide) (by decide) k) ?_
  show OwnGo p e below (T448.setTop (mkF m 8 #[.val .null, .val (.ref ar), .val (.ref ar), .val (.int (2 : Int32)), .val (.int (2 : Int32)), .val (.ref ad1)] [])) _
  refine own_back (fun t k => XS.iload X448.here hx rfl (hb hby oo2n_d8) rfl k) ?_
  show OwnGo p e below (T448.setTop (mkF m 10 #[.val .null, .val (.ref ar), .val (.ref ar), .val (.int (2 : Int32)), .val (.int (2 : Int32)), .val (.ref ad1)] [(.int (2 : Int32))])) _
  refine own_back (fun t k => XS.iloadN X448.here hx rfl (hb hby oo2n_d10) rfl k) ?_
  show OwnGo p e below (T448.setTop (mkF m 11 #[.val .null, .val (.ref ar), .val (.ref ar), .val (.int (2 : Int32)), .val (.int (2 : Int32)), .val (.ref ad1)] [(.int (2 : Int32)), (.int (2 : Int32))])) _
  refine own_back (fun t k => XS.icmpYes X448.here hx rfl (pc0 := 11) (pc' := 37) rfl (hb hby oo2n_d11) rfl (Jvm.Free.XT.ii_ge_t (by decide)) (by decide) (by decide) k) ?_
  show OwnGo p e below (T448.setTop (mkF m 37 #[.val .null, .val (.ref ar), .val (.ref ar), .val (.int (2 : Int32)), .val (.int (2 : Int32)), .val (.ref ad1)] [])) _
  refine own_back (fun t k => XS.iconst X448.here hx rfl (hb hby oo2n_d37) k) ?_
  show OwnGo p e below (T448.setTop (mkF m 38 #[.val .null, .val (.ref ar), .val (.ref ar), .val (.int (2 : Int32)), .val (.int (2 : Int32)), .val (.ref ad1)] [(.int (0 : Int32))])) _
  refine own_retN X448 hx Bd.notSynchronized (t := .boolean) (z := (0 : Int32)) Bd.returns (by simp) rfl (hb hby oo2n_d38) hh448 (Nat.le_of_ble_eq_true rfl) (Nat.le_of_ble_eq_true rfl) ?_
  exact ⟨rfl, N448, rfl⟩
theorem oo3n_d0 : decode prog_62_method_7_code 0 = .ok (.aload_n 1, 1) := by decide +kernel
theorem oo3n_d1 : decode prog_62_method_7_code 1 = .ok (.astore_n 2, 1) := by decide +kernel
theorem oo3n_d2 : decode prog_62_method_7_code 2 = .ok (.aload_n 2, 1) := by decide +kernel
theorem oo3n_d3 : decode prog_62_method_7_code 3 = .ok (.arraylength, 1) := by decide +kernel
theorem oo3n_d4 : decode prog_62_method_7_code 4 = .ok (.istore_n 3, 1) := by decide +kernel
theorem oo3n_d5 : decode prog_62_method_7_code 5 = .ok (.iconst 0, 1) := by decide +kernel
theorem oo3n_d6 : decode prog_62_method_7_code 6 = .ok (.istore 4, 2) := by decide +kernel
theorem oo3n_d8 : decode prog_62_method_7_code 8 = .ok (.iload 4, 2) := by decide +kernel
theorem oo3n_d10 : decode prog_62_method_7_code 10 = .ok (.iload_n 3, 1) := by decide +kernel
theorem oo3n_d11 : decode prog_62_method_7_code 11 = .ok (.if_icmp .ge 26, 3) := by decide +kernel
theorem oo3n_d14 : decode prog_62_method_7_code 14 = .ok (.aload_n 2, 1) := by decide +kernel
theorem oo3n_d15 : decode prog_62_method_7_code 15 = .ok (.iload 4, 2) := by decide +kernel
theorem oo3n_d17 : decode prog_62_method_7_code 17 = .ok (.aaload, 1) := by decide +kernel
theorem oo3n_d18 : decode prog_62_method_7_code 18 = .ok (.astore 5, 2) := by decide +kernel
theorem oo3n_d20 : decode prog_62_method_7_code 20 = .ok (.aload 5, 2) := by decide +kernel
theorem oo3n_d22 : decode prog_62_method_7_code 22 = .ok (.aload_n 0, 1) := by decide +kernel
theorem oo3n_d23 : decode prog_62_method_7_code 23 = .ok (.invokevirtual 45, 3) := by decide +kernel
theorem oo3n_d26 : decode prog_62_method_7_code 26 = .ok (.ifCond .eq 5, 3) := by decide +kernel
theorem oo3n_d31 : decode prog_62_method_7_code 31 = .ok (.iinc 4 1, 3) := by decide +kernel
theorem oo3n_d34 : decode prog_62_method_7_code 34 = .ok (.goto (-26), 3) := by decide +kernel
theorem oo3n_d37 : decode prog_62_method_7_code 37 = .ok (.iconst 0, 1) := by decide +kernel
theorem oo3n_d38 : decode prog_62_method_7_code 38 = .ok (.ireturn, 1) := by decide +kernel
theorem oo3n_pn : plainName "com/example/lease/lease/cli/OptionValues" = true := by first | (simp [plainName, overriddenIn]; done) | decide +kernel
theorem oo3n_pd0 : parseMethodDescriptor "(Ljava/lang/Object;)Z" = some ⟨[(.object "java/lang/Object")], some .boolean⟩ := by decide +kernel
theorem oo3n_ef (m : MethodId) (x1 : Addr) : entryFrame m #[.null, (.ref x1)] 6 = mkF m 0 #[.val .null, .val (.ref x1), .unset, .unset, .unset, .unset] [] := by first | (simp [entryFrame, mkF, argsToLocals, Value.category]; done) | rfl
set_option maxRecDepth 65536 in
set_option maxHeartbeats 40000000 in
theorem rm_oo3n (l : Launch) (Z : State) (a0 : Array Value) (hw : ∀ d ∈ tables_1, d.before a0 Z = true) (ws : List Jvm.Cond) (ar : Addr) (ka : ClassId) (ad0 : Addr) (ad1 : Addr) (ad2 : Addr) (d0 : List Int32) (d1 : List Int32) (d2 : List Int32) (h0 : Heap) (n0 : Nat) (Z0 : n0 ≤ h0.size) (VA : Arv Z h0 ar ka (.object "java/lang/String") (3 : Int32) [.ref ad0, .ref ad1, .ref ad2] .null) (D0 : OwnStr Z h0 ad0 d0) (D1 : OwnStr Z h0 ad1 d1) (D2 : OwnStr Z h0 ad2 d2) :
    MetFree l (⟨"com/example/lease/lease/cli/OptionValues", "oneOf", "(Ljava/lang/String;[Ljava/lang/String;)Z"⟩ : MethodName) (head1 (Jvm.Cond.code (⟨"com/example/lease/lease/cli/OptionValues", "oneOf", "(Ljava/lang/String;[Ljava/lang/String;)Z"⟩ : MethodName) prog_62_method_7_code 6 (some .boolean) :: ws) ({ frames := 1, cells := 0, slots := 0, locals := 20 } : Room)) (fun a U => a = #[.null, (.ref ar)] ∧ Z.Warmed39 U.vm ∧ U.heap = h0) (fun _ _ _ _ _ => True) (fun _ U o U' => OwnEnd U (fun v h L => v = some (.int 0) ∧ Fr n0 L ∧ h = h0) ({ frames := 1, cells := 0, slots := 0, locals := 20 } : Room).cells ({ frames := 1, cells := 0, slots := 0, locals := 20 } : Room).slots o U') := by
  refine MetFree.of_bodySF (plainFor_of_name oo3n_pn) hisR ?_
  intro p e s m args below meth c s₁ Bd hml0 hP hK
  obtain ⟨rfl, hZ, hh⟩ := hP
  have hx := Bd.exec
  have hby := Bd.bytes
  have hml : c.maxLocals = 6 := hml0
  have hown : s.vm.findClass "com/example/lease/lease/cli/OptionValues" = some m.cls := findClass_of_methodNamed Bd.named
  have hnm := (name_of_methodNamed Bd.named Bd.method).1
  have X0 : Stand p l e ({ frames := 1, cells := 0, slots := 0, locals := 20 } : Room) s m #[.null, (.ref ar)] below meth c s₁ [] 0 0 := Stand.of_body Bd
  have e0 : s₁.heap = h0 := by rw [← hh, Bd.state]; rfl
  have N0 := Fr.nil n0
  have KP0 := Keep.refl h0 []
  refine own_go (Q := (OwnEnd s (fun v h L => v = some (.int 0) ∧ Fr n0 L ∧ h = h0) ({ frames := 1, cells := 0, slots := 0, locals := 20 } : Room).cells ({ frames := 1, cells := 0, slots := 0, locals := 20 } : Room).slots)) ?_
  refine own_back (fun t k => castTop (oo3n_ef m ar) k) ?_
  show OwnGo p e below (s₁.setTop (mkF m 0 #[.val .null, .val (.ref ar), .unset, .unset, .unset, .unset] [])) _
  refine own_back (fun t k => XS.aloadN X0.here hx rfl (hb hby oo3n_d0) rfl rfl k) ?_
  show OwnGo p e below (s₁.setTop (mkF m 1 #[.val .null, .val (.ref ar), .unset, .unset, .unset, .unset] [(.ref ar)])) _
  refine own_back (fun t k => XS.astoreN X0.here hx rfl (hb hby oo3n_d1) rfl rfl (l' := #[.val .null, .val (.ref ar), .val (.ref ar), .unset, .unset, .unset]) rfl k) ?_
  show OwnGo p e below (s₁.setTop (mkF m 2 #[.val .null, .val (.ref ar), .val (.ref ar), .unset, .unset, .unset] [])) _
  refine own_back (fun t k => XS.aloadN X0.here hx rfl (hb hby oo3n_d2) rfl rfl k) ?_
  show OwnGo p e below (s₁.setTop (mkF m 3 #[.val .null, .val (.ref ar), .val (.ref ar), .unset, .unset, .unset] [(.ref ar)])) _
  obtain ⟨c449, A449, q449, S449, M449, H449, U449⟩ := id VA
  refine own_back (fun t k => X0.arraylength hx (own_hat e0 A449.1) (State.isArrayOf_alike hZ.alike A449.2.1) (g := (mkF m 3 #[.val .null, .val (.ref ar), .val (.ref ar), .unset, .unset, .unset] [(.ref ar)])) rfl rfl (hb hby oo3n_d3) t k) ?_
  rw [len_of S449 M449]
  show OwnGo p e below (s₁.setTop (mkF m 4 #[.val .null, .val (.ref ar), .val (.ref ar), .unset, .unset, .unset] [(.int (3 : Int32))])) _
  refine own_back (fun t k => XS.istoreN X0.here hx rfl (hb hby oo3n_d4) rfl (l' := #[.val .null, .val (.ref ar), .val (.ref ar), .val (.int (3 : Int32)), .unset, .unset]) rfl k) ?_
  show OwnGo p e below (s₁.setTop (mkF m 5 #[.val .null, .val (.ref ar), .val (.ref ar), .val (.int (3 : Int32)), .unset, .unset] [])) _
  refine own_back (fun t k => XS.iconst X0.here hx rfl (hb hby oo3n_d5) k) ?_
  show OwnGo p e below (s₁.setTop (mkF m 6 #[.val .null, .val (.ref ar), .val (.ref ar), .val (.int (3 : Int32)), .unset, .unset] [(.int (0 : Int32))])) _
  refine own_back (fun t k => XS.istore X0.here hx rfl (hb hby oo3n_d6) rfl (l' := #[.val .null, .val (.ref ar), .val (.ref ar), .val (.int (3 : Int32)), .val (.int (0 : Int32)), .unset]) rfl k) ?_
  show OwnGo p e below (s₁.setTop (mkF m 8 #[.val .null, .val (.ref ar), .val (.ref ar), .val (.int (3 : Int32)), .val (.int (0 : Int32)), .unset] [])) _
  refine own_back (fun t k => XS.iload X0.here hx rfl (hb hby oo3n_d8) rfl k) ?_
  show OwnGo p e below (s₁.setTop (mkF m 10 #[.val .null, .val (.ref ar), .val (.ref ar), .val (.int (3 : Int32)), .val (.int (0 : Int32)), .unset] [(.int (0 : Int32))])) _
  refine own_back (fun t k => XS.iloadN X0.here hx rfl (hb hby oo3n_d10) rfl k) ?_
  show OwnGo p e below (s₁.setTop (mkF m 11 #[.val .null, .val (.ref ar), .val (.ref ar), .val (.int (3 : Int32)), .val (.int (0 : Int32)), .unset] [(.int (3 : Int32)), (.int (0 : Int32))])) _
  refine own_back (fun t k => XS.icmpNo X0.here hx rfl (hb hby oo3n_d11) rfl (Jvm.Free.XT.ii_ge_f (by decide)) k) ?_
  show OwnGo p e below (s₁.setTop (mkF m 14 #[.val .null, .val (.ref ar), .val (.ref ar), .val (.int (3 : Int32)), .val (.int (0 : Int32)), .unset] [])) _
  refine own_back (fun t k => XS.aloadN X0.here hx rfl (hb hby oo3n_d14) rfl rfl k) ?_
  show OwnGo p e below (s₁.setTop (mkF m 15 #[.val .null, .val (.ref ar), .val (.ref ar), .val (.int (3 : Int32)), .val (.int (0 : Int32)), .unset] [(.ref ar)])) _
  refine own_back (fun t k => XS.iload X0.here hx rfl (hb hby oo3n_d15) rfl k) ?_
  show OwnGo p e below (s₁.setTop (mkF m 17 #[.val .null, .val (.ref ar), .val (.ref ar), .val (.int (3 : Int32)), .val (.int (0 : Int32)), .unset] [(.int (0 : Int32)), (.ref ar)])) _
  obtain ⟨c450, A450, q450, S450, M450, H450, U450⟩ := id VA
  have ib451 : ¬ ((0 : Int32) < 0 ∨ c450.slots.size ≤ ((0 : Int32)).toNatClampNeg) := (inb_of S450 ⟨by decide, by decide⟩)
  refine own_back (fun t k => X0.aaload hx (j := (0 : Int32)) (v := (.ref ad0)) (own_hat e0 A450.1) (State.isArrayOf_alike hZ.alike A450.2.1) rfl A450.2.2 ib451 (H450.at ib451 rfl) (g := (mkF m 17 #[.val .null, .val (.ref ar), .val (.ref ar), .val (.int (3 : Int32)), .val (.int (0 : Int32)), .unset] [(.int (0 : Int32)), (.ref ar)])) rfl rfl (hb hby oo3n_d17) t k) ?_
  show OwnGo p e below (s₁.setTop (mkF m 18 #[.val .null, .val (.ref ar), .val (.ref ar), .val (.int (3 : Int32)), .val (.int (0 : Int32)), .unset] [(.ref ad0)])) _
  refine own_back (fun t k => XS.astore X0.here hx rfl (hb hby oo3n_d18) rfl rfl (l' := #[.val .null, .val (.ref ar), .val (.ref ar), .val (.int (3 : Int32)), .val (.int (0 : Int32)), .val (.ref ad0)]) rfl k) ?_
  show OwnGo p e below (s₁.setTop (mkF m 20 #[.val .null, .val (.ref ar), .val (.ref ar), .val (.int (3 : Int32)), .val (.int (0 : Int32)), .val (.ref ad0)] [])) _
  refine own_back (fun t k => XS.aload X0.here hx rfl (hb hby oo3n_d20) rfl rfl k) ?_
  show OwnGo p e below (s₁.setTop (mkF m 22 #[.val .null, .val (.ref ar), .val (.ref ar), .val (.int (3 : Int32)), .val (.int (0 : Int32)), .val (.ref ad0)] [(.ref ad0)])) _
  refine own_back (fun t k => XS.aloadN X0.here hx rfl (hb hby oo3n_d22) rfl rfl k) ?_
  show OwnGo p e below (s₁.setTop (mkF m 23 #[.val .null, .val (.ref ar), .val (.ref ar), .val (.int (3 : Int32)), .val (.int (0 : Int32)), .val (.ref ad0)] [.null, (.ref ad0)])) _
  obtain ⟨cq452, kq452, q452a, q452b, q452c⟩ := isOf hZ e0 D0.exa
  obtain ⟨_, _, ⟨T452, L452, k452, n452⟩, -, X452, ⟨Lc452, hQ452, l452, y452, z452⟩, st452⟩ := X0.virtualBack hx (y := (⟨"java/lang/String", "equals", "(Ljava/lang/Object;)Z"⟩ : MethodName)) (z := (⟨"java/lang/String", "equals", "(Ljava/lang/Object;)Z"⟩ : MethodName)) hown (mvT hZ (hw _ (List.mem_of_getElem? (i := 39) rfl))) (mvT hZ (hw _ (List.mem_of_getElem? (i := 40) rfl))) (notFace_of_selects (args := #[]) (mvT hZ (hw _ (List.mem_of_getElem? (i := 42) rfl)))) (mvT hZ (hw _ (List.mem_of_getElem? (i := 42) rfl))) (mvT hZ (hw _ (List.mem_of_getElem? (i := 41) rfl))) (by decide) (own_backN (W := 0) (rm_seqn l Z a0 hw [] ad0 h0 n0 Z0) hZ (hw _ (List.mem_of_getElem? (i := 43) rfl)) (hw _ (List.mem_of_getElem? (i := 6) rfl)) (by decide) (by decide)) q452a q452c (g := (mkF m 23 #[.val .null, .val (.ref ar), .val (.ref ar), .val (.int (3 : Int32)), .val (.int (0 : Int32)), .val (.ref ad0)] [.null, (.ref ad0)])) rfl (by rw [hml]; rfl) (Steps.refl _) (argsL := [.null]) (rest := []) (lenOf oo3n_pd0 rfl) rfl (by show 2 * 0 + _ ≤ _; exact Nat.le_of_eq rfl) (hb hby oo3n_d23) (fun _ _ => ⟨rfl, e0, Nat.le_of_ble_eq_true rfl, Nat.le_of_ble_eq_true rfl⟩)
  dsimp only [Pt.U, Pt.locs, Pt.cells, Pt.slots] at X452 l452 y452 z452 st452 hQ452
  subst l452 y452 z452
  obtain ⟨rfl, N452q, hh452⟩ := hQ452
  refine own_seq st452 ?_
  have N452 := Fr.app N0 N452q
  show OwnGo p e below (T452.setTop (mkF m 26 #[.val .null, .val (.ref ar), .val (.ref ar), .val (.int (3 : Int32)), .val (.int (0 : Int32)), .val (.ref ad0)] [(.int (0 : Int32))])) _
  refine own_back (fun t k => XS.ifYes X452.here hx rfl (pc0 := 26) (pc' := 31) rfl (hb hby oo3n_d26) rfl (Jvm.Free.XT.i0_eq_t (by decide)) (by decide) (by decide) k) ?_
  show OwnGo p e below (T452.setTop (mkF m 31 #[.val .null, .val (.ref ar), .val (.ref ar), .val (.int (3 : Int32)), .val (.int (0 : Int32)), .val (.ref ad0)] [])) _
  refine own_back (fun t k => XS.iinc X452.here hx rfl (hb hby oo3n_d31) rfl (l' := #[.val .null, .val (.ref ar), .val (.ref ar), .val (.int (3 : Int32)), .val (.int (1 : Int32)), .val (.ref ad0)]) rfl k) ?_
  show OwnGo p e below (T452.setTop (mkF m 34 #[.val .null, .val (.ref ar), .val (.ref ar), .val (.int (3 : Int32)), .val (.int (1 : Int32)), .val (.ref ad0)] [])) _
  refine own_back (fun t k => XS.goto X452.here hx rfl (pc0 := 34) (pc' := 8) rfl (hb hby oo3n_d34) (by decide) (by decide) k) ?_
  show OwnGo p e below (T452.setTop (mkF m 8 #[.val .null, .val (.ref ar), .val (.ref ar), .val (.int (3 : Int32)), .val (.int (1 : Int32)), .val (.ref ad0)] [])) _
  refine own_back (fun t k => XS.iload X452.here hx rfl (hb hby oo3n_d8) rfl k) ?_
  show OwnGo p e below (T452.setTop (mkF m 10 #[.val .null, .val (.ref ar), .val (.ref ar), .val (.int (3 : Int32)), .val (.int (1 : Int32)), .val (.ref ad0)] [(.int (1 : Int32))])) _
  refine own_back (fun t k => XS.iloadN X452.here hx rfl (hb hby oo3n_d10) rfl k) ?_
  show OwnGo p e below (T452.setTop (mkF m 11 #[.val .null, .val (.ref ar), .val (.ref ar), .val (.int (3 : Int32)), .val (.int (1 : Int32)), .val (.ref ad0)] [(.int (3 : Int32)), (.int (1 : Int32))])) _
  refine own_back (fun t k => XS.icmpNo X452.here hx rfl (hb hby oo3n_d11) rfl (Jvm.Free.XT.ii_ge_f (by decide)) k) ?_
  show OwnGo p e below (T452.setTop (mkF m 14 #[.val .null, .val (.ref ar), .val (.ref ar), .val (.int (3 : Int32)), .val (.int (1 : Int32)), .val (.ref ad0)] [])) _
  refine own_back (fun t k => XS.aloadN X452.here hx rfl (hb hby oo3n_d14) rfl rfl k) ?_
  show OwnGo p e below (T452.setTop (mkF m 15 #[.val .null, .val (.ref ar), .val (.ref ar), .val (.int (3 : Int32)), .val (.int (1 : Int32)), .val (.ref ad0)] [(.ref ar)])) _
  refine own_back (fun t k => XS.iload X452.here hx rfl (hb hby oo3n_d15) rfl k) ?_
  show OwnGo p e below (T452.setTop (mkF m 17 #[.val .null, .val (.ref ar), .val (.ref ar), .val (.int (3 : Int32)), .val (.int (1 : Int32)), .val (.ref ad0)] [(.int (1 : Int32)), (.ref ar)])) _
  obtain ⟨c453, A453, q453, S453, M453, H453, U453⟩ := id VA
  have ib454 : ¬ ((1 : Int32) < 0 ∨ c453.slots.size ≤ ((1 : Int32)).toNatClampNeg) := (inb_of S453 ⟨by decide, by decide⟩)
  refine own_back (fun t k => X452.aaload hx (j := (1 : Int32)) (v := (.ref ad1)) (own_hat hh452 A453.1) (State.isArrayOf_alike hZ.alike A453.2.1) rfl A453.2.2 ib454 (H453.at ib454 rfl) (g := (mkF m 17 #[.val .null, .val (.ref ar), .val (.ref ar), .val (.int (3 : Int32)), .val (.int (1 : Int32)), .val (.ref ad0)] [(.int (1 : Int32)), (.ref ar)])) rfl rfl (hb hby oo3n_d17) t k) ?_
  show OwnGo p e below (T452.setTop (mkF m 18 #[.val .null, .val (.ref ar), .val (.ref ar), .val (.int (3 : Int32)), .val (.int (1 : Int32)), .val (.ref ad0)] [(.ref ad1)])) _
  refine own_back (fun t k => XS.astore X452.here hx rfl (hb hby oo3n_d18) rfl rfl (l' := #[.val .null, .val (.ref ar), .val (.ref ar), .val (.int (3 : Int32)), .val (.int (1 : Int32)), .val (.ref ad1)]) rfl k) ?_
  show OwnGo p e below (T452.setTop (mkF m 20 #[.val .null, .val (.ref ar), .val (.ref ar), .val (.int (3 : Int32)), .val (.int (1 : Int32)), .val (.ref ad1)] [])) _
  refine own_back (fun t k => XS.aload X452.here hx rfl (hb hby oo3n_d20) rfl rfl k) ?_
  show OwnGo p e below (T452.setTop (mkF m 22 #[.val .null, .val (.ref ar), .val (.ref ar), .val (.int (3 : Int32)), .val (.int (1 : Int32)), .val (.ref ad1)] [(.ref ad1)])) _
  refine own_back (fun t k => XS.aloadN X452.here hx rfl (hb hby oo3n_d22) rfl rfl k) ?_
  show OwnGo p e below (T452.setTop (mkF m 23 #[.val .null, .val (.ref ar), .val (.ref ar), .val (.int (3 : Int32)), .val (.int (1 : Int32)), .val (.ref ad1)] [.null, (.ref ad1)])) _
  obtain ⟨cq455, kq455, q455a, q455b, q455c⟩ := isOf hZ hh452 D1.exa
  obtain ⟨_, _, ⟨T455, L455, k455, n455⟩, -, X455, ⟨Lc455, hQ455, l455, y455, z455⟩, st455⟩ := X452.virtualBack hx (y := (⟨"java/lang/String", "equals", "(Ljava/lang/Object;)Z"⟩ : MethodName)) (z := (⟨"java/lang/String", "equals", "(Ljava/lang/Object;)Z"⟩ : MethodName)) hown (mvT hZ (hw _ (List.mem_of_getElem? (i := 39) rfl))) (mvT hZ (hw _ (List.mem_of_getElem? (i := 40) rfl))) (notFace_of_selects (args := #[]) (mvT hZ (hw _ (List.mem_of_getElem? (i := 42) rfl)))) (mvT hZ (hw _ (List.mem_of_getElem? (i := 42) rfl))) (mvT hZ (hw _ (List.mem_of_getElem? (i := 41) rfl))) (by decide) (own_backN (W := 0) (rm_seqn l Z a0 hw [] ad1 h0 n0 Z0) hZ (hw _ (List.mem_of_getElem? (i := 43) rfl)) (hw _ (List.mem_of_getElem? (i := 6) rfl)) (by decide) (by decide)) q455a q455c (g := (mkF m 23 #[.val .null, .val (.ref ar), .val (.ref ar), .val (.int (3 : Int32)), .val (.int (1 : Int32)), .val (.ref ad1)] [.null, (.ref ad1)])) rfl (by rw [hml]; rfl) (Steps.refl _) (argsL := [.null]) (rest := []) (lenOf oo3n_pd0 rfl) rfl (by show 2 * 0 + _ ≤ _; exact Nat.le_of_eq rfl) (hb hby oo3n_d23) (fun _ _ => ⟨rfl, hh452, Nat.le_of_ble_eq_true rfl, Nat.le_of_ble_eq_true rfl⟩)
  dsimp only [Pt.U, Pt.locs, Pt.cells, Pt.slots] at X455 l455 y455 z455 st455 hQ455
  subst l455 y455 z455
  obtain ⟨rfl, N455q, hh455⟩ := hQ455
  refine own_seq st455 ?_
  have N455 := Fr.app N452 N455q
  show OwnGo p e below (T455.setTop (mkF m 26 #[.val .null, .val (.ref ar), .val (.ref ar), .val (.int (3 : Int32)), .val (.int (1 : Int32)), .val (.ref ad1)] [(.int (0 : Int32))])) _
  refine own_back (fun t k => XS.ifYes X455.here hx rfl (pc0 := 26) (pc' := 31) rfl (hb hby oo3n_d26) rfl (Jvm.Free.XT.i0_eq_t (by decide)) (by decide) (by decide) k) ?_
  show OwnGo p e below (T455.setTop (mkF m 31 #[.val .null, .val (.ref ar), .val (.ref ar), .val (.int (3 : Int32)), .val (.int (1 : Int32)), .val (.ref ad1)] [])) _
  refine own_back (fun t k => XS.iinc X455.here hx rfl (hb hby oo3n_d31) rfl (l' := #[.val .null, .val (.ref ar), .val (.ref ar), .val (.int (3 : Int32)), .val (.int (2 : Int32)), .val (.ref ad1)]) rfl k) ?_
  show OwnGo p e below (T455.setTop (mkF m 34 #[.val .null, .val (.ref ar), .val (.ref ar), .val (.int (3 : Int32)), .val (.int (2 : Int32)), .val (.ref ad1)] [])) _
  refine own_back (fun t k => XS.goto X455.here hx rfl (pc0 := 34) (pc' := 8) rfl (hb hby oo3n_d34) (by decide) (by decide) k) ?_
  show OwnGo p e below (T455.setTop (mkF m 8 #[.val .null, .val (.ref ar), .val (.ref ar), .val (.int (3 : Int32)), .val (.int (2 : Int32)), .val (.ref ad1)] [])) _
  refine own_back (fun t k => XS.iload X455.here hx rfl (hb hby oo3n_d8) rfl k) ?_
  show OwnGo p e below (T455.setTop (mkF m 10 #[.val .null, .val (.ref ar), .val (.ref ar), .val (.int (3 : Int32)), .val (.int (2 : Int32)), .val (.ref ad1)] [(.int (2 : Int32))])) _
  refine own_back (fun t k => XS.iloadN X455.here hx rfl (hb hby oo3n_d10) rfl k) ?_
  show OwnGo p e below (T455.setTop (mkF m 11 #[.val .null, .val (.ref ar), .val (.ref ar), .val (.int (3 : Int32)), .val (.int (2 : Int32)), .val (.ref ad1)] [(.int (3 : Int32)), (.int (2 : Int32))])) _
  refine own_back (fun t k => XS.icmpNo X455.here hx rfl (hb hby oo3n_d11) rfl (Jvm.Free.XT.ii_ge_f (by decide)) k) ?_
  show OwnGo p e below (T455.setTop (mkF m 14 #[.val .null, .val (.ref ar), .val (.ref ar), .val (.int (3 : Int32)), .val (.int (2 : Int32)), .val (.ref ad1)] [])) _
  refine own_back (fun t k => XS.aloadN X455.here hx rfl (hb hby oo3n_d14) rfl rfl k) ?_
  show OwnGo p e below (T455.setTop (mkF m 15 #[.val .null, .val (.ref ar), .val (.ref ar), .val (.int (3 : Int32)), .val (.int (2 : Int32)), .val (.ref ad1)] [(.ref ar)])) _
  refine own_back (fun t k => XS.iload X455.here hx rfl (hb hby oo3n_d15) rfl k) ?_
  show OwnGo p e below (T455.setTop (mkF m 17 #[.val .null, .val (.ref ar), .val (.ref ar), .val (.int (3 : Int32)), .val (.int (2 : Int32)), .val (.ref ad1)] [(.int (2 : Int32)), (.ref ar)])) _
  obtain ⟨c456, A456, q456, S456, M456, H456, U456⟩ := id VA
  have ib457 : ¬ ((2 : Int32) < 0 ∨ c456.slots.size ≤ ((2 : Int32)).toNatClampNeg) := (inb_of S456 ⟨by decide, by decide⟩)
  refine own_back (fun t k => X455.aaload hx (j := (2 : Int32)) (v := (.ref ad2)) (own_hat hh455 A456.1) (State.isArrayOf_alike hZ.alike A456.2.1) rfl A456.2.2 ib457 (H456.at ib457 rfl) (g := (mkF m 17 #[.val .null, .val (.ref ar), .val (.ref ar), .val (.int (3 : Int32)), .val (.int (2 : Int32)), .val (.ref ad1)] [(.int (2 : Int32)), (.ref ar)])) rfl rfl (hb hby oo3n_d17) t k) ?_
  show OwnGo p e below (T455.setTop (mkF m 18 #[.val .null, .val (.ref ar), .val (.ref ar), .val (.int (3 : Int32)), .val (.int (2 : Int32)), .val (.ref ad1)] [(.ref ad2)])) _
  refine own_back (fun t k => XS.astore X455.here hx rfl (hb hby oo3n_d18) rfl rfl (l' := #[.val .null, .val (.ref ar), .val (.ref ar), .val (.int (3 : Int32)), .val (.int (2 : Int32)), .val (.ref ad2)]) rfl k) ?_
  show OwnGo p e below (T455.setTop (mkF m 20 #[.val .null, .val (.ref ar), .val (.ref ar), .val (.int (3 : Int32)), .val (.int (2 : Int32)), .val (.ref ad2)] [])) _
  refine own_back (fun t k => XS.aload X455.here hx rfl (hb hby oo3n_d20) rfl rfl k) ?_
  show OwnGo p e below (T455.setTop (mkF m 22 #[.val .null, .val (.ref ar), .val (.ref ar), .val (.int (3 : Int32)), .val (.int (2 : Int32)), .val (.ref ad2)] [(.ref ad2)])) _
  refine own_back (fun t k => XS.aloadN X455.here hx rfl (hb hby oo3n_d22) rfl rfl k) ?_
  show OwnGo p e below (T455.setTop (mkF m 23 #[.val .null, .val (.ref ar), .val (.ref ar), .val (.int (3 : Int32)), .val (.int (2 : Int32)), .val (.ref ad2)] [.null, (.ref ad2)])) _
  obtain ⟨cq458, kq458, q458a, q458b, q458c⟩ := isOf hZ hh455 D2.exa
  obtain ⟨_, _, ⟨T458, L458, k458, n458⟩, -, X458, ⟨Lc458, hQ458, l458, y458, z458⟩, st458⟩ := X455.virtualBack hx (y := (⟨"java/lang/String", "equals", "(Ljava/lang/Object;)Z"⟩ : MethodName)) (z := (⟨"java/lang/String", "equals", "(Ljava/lang/Object;)Z"⟩ : MethodName)) hown (mvT hZ (hw _ (List.mem_of_getElem? (i := 39) rfl))) (mvT hZ (hw _ (List.mem_of_getElem? (i := 40) rfl))) (notFace_of_selects (args := #[]) (mvT hZ (hw _ (List.mem_of_getElem? (i := 42) rfl)))) (mvT hZ (hw _ (List.mem_of_getElem? (i := 42) rfl))) (mvT hZ (hw _ (List.mem_of_getElem? (i := 41) rfl))) (by decide) (own_backN (W := 0) (rm_seqn l Z a0 hw [] ad2 h0 n0 Z0) hZ (hw _ (List.mem_of_getElem? (i := 43) rfl)) (hw _ (List.mem_of_getElem? (i := 6) rfl)) (by decide) (by decide)) q458a q458c (g := (mkF m 23 #[.val .null, .val (.ref ar), .val (.ref ar), .val (.int (3 : Int32)), .val (.int (2 : Int32)), .val (.ref ad2)] [.null, (.ref ad2)])) rfl (by rw [hml]; rfl) (Steps.refl _) (argsL := [.null]) (rest := []) (lenOf oo3n_pd0 rfl) rfl (by show 2 * 0 + _ ≤ _; exact Nat.le_of_eq rfl) (hb hby oo3n_d23) (fun _ _ => ⟨rfl, hh455, Nat.le_of_ble_eq_true rfl, Nat.le_of_ble_eq_true rfl⟩)
  dsimp only [Pt.U, Pt.locs, Pt.cells, Pt.slots] at X458 l458 y458 z458 st458 hQ458
  subst l458 y458 z458
  obtain ⟨rfl, N458q, hh458⟩ := hQ458
  refine own_seq st458 ?_
  have N458 := Fr.app N455 N458q
  show OwnGo p e below (T458.setTop (mkF m 26 #[.val .null, .val (.ref ar), .val (.ref ar), .val (.int (3 : Int32)), .val (.int (2 : Int32)), .val (.ref ad2)] [(.int (0 : Int32))])) _
  refine own_back (fun t k => XS.ifYes X458.here hx rfl (pc0 := 26) (pc' := 31) rfl (hb hby oo3n_d26) rfl (Jvm.Free.XT.i0_eq_t (by decide)) (by decide) (by decide) k) ?_
  show OwnGo p e below (T458.setTop (mkF m 31 #[.val .null, .val (.ref ar), .val (.ref ar), .val (.int (3 : Int32)), .val (.int (2 : Int32)), .val (.ref ad2)] [])) _
  refine own_back (fun t k => XS.iinc X458.here hx rfl (hb hby oo3n_d31) rfl (l' := #[.val .null, .val (.ref ar), .val (.ref ar), .val (.int (3 : Int32)), .val (.int (3 : Int32)), .val (.ref ad2)]) rfl k) ?_
  show OwnGo p e below (T458.setTop (mkF m 34 #[.val .null, .val (.ref ar), .val (.ref ar), .val (.int (3 : Int32)), .val (.int (3 : Int32)), .val (.ref ad2)] [])) _
  refine own_back (fun t k => XS.goto X458.here hx rfl (pc0 := 34) (pc' := 8) rfl (hb hby oo3n_d34) (by decide) (by decide) k) ?_
  show OwnGo p e below (T458.setTop (mkF m 8 #[.val .null, .val (.ref ar), .val (.ref ar), .val (.int (3 : Int32)), .val (.int (3 : Int32)), .val (.ref ad2)] [])) _
  refine own_back (fun t k => XS.iload X458.here hx rfl (hb hby oo3n_d8) rfl k) ?_
  show OwnGo p e below (T458.setTop (mkF m 10 #[.val .null, .val (.ref ar), .val (.ref ar), .val (.int (3 : Int32)), .val (.int (3 : Int32)), .val (.ref ad2)] [(.int (3 : Int32))])) _
  refine own_back (fun t k => XS.iloadN X458.here hx rfl (hb hby oo3n_d10) rfl k) ?_
  show OwnGo p e below (T458.setTop (mkF m 11 #[.val .null, .val (.ref ar), .val (.ref ar), .val (.int (3 : Int32)), .val (.int (3 : Int32)), .val (.ref ad2)] [(.int (3 : Int32)), (.int (3 : Int32))])) _
  refine own_back (fun t k => XS.icmpYes X458.here hx rfl (pc0 := 11) (pc' := 37) rfl (hb hby oo3n_d11) rfl (Jvm.Free.XT.ii_ge_t (by decide)) (by decide) (by decide) k) ?_
  show OwnGo p e below (T458.setTop (mkF m 37 #[.val .null, .val (.ref ar), .val (.ref ar), .val (.int (3 : Int32)), .val (.int (3 : Int32)), .val (.ref ad2)] [])) _
  refine own_back (fun t k => XS.iconst X458.here hx rfl (hb hby oo3n_d37) k) ?_
  show OwnGo p e below (T458.setTop (mkF m 38 #[.val .null, .val (.ref ar), .val (.ref ar), .val (.int (3 : Int32)), .val (.int (3 : Int32)), .val (.ref ad2)] [(.int (0 : Int32))])) _
  refine own_retN X458 hx Bd.notSynchronized (t := .boolean) (z := (0 : Int32)) Bd.returns (by simp) rfl (hb hby oo3n_d38) hh458 (Nat.le_of_ble_eq_true rfl) (Nat.le_of_ble_eq_true rfl) ?_
  exact ⟨rfl, N458, rfl⟩
theorem own_and3 (x : Int32) : (x &&& (3 : Int32)) = 0 ∨ (x &&& (3 : Int32)) = 1 ∨ (x &&& (3 : Int32)) = 2 ∨ (x &&& (3 : Int32)) = 3 := by
  have h := c_and x 3 (by decide)
  have z : (3 : Int32).toInt = 3 := rfl
  rw [z] at h
  have c : ∀ n : Int32, (x &&& 3) = n ↔ (x &&& 3).toInt = n.toInt := fun n => ⟨congrArg _, Int32.toInt_inj.mp⟩
  have : (x &&& 3).toInt = 0 ∨ (x &&& 3).toInt = 1 ∨ (x &&& 3).toInt = 2 ∨ (x &&& 3).toInt = 3 := by omega
  simp only [c]
  exact this
theorem lw_pn : plainName "com/example/lease/lease/cli/OptionValuesOneOfPinLaw" = true := by first | (simp [plainName, overriddenIn]; done) | decide +kernel
theorem lw_pd0 : parseMethodDescriptor "(Ljava/lang/String;[Ljava/lang/String;)Z" = some ⟨[(.object "java/lang/String"), (.array (.object "java/lang/String"))], some .boolean⟩ := by decide +kernel
theorem lw_pd1 : parseMethodDescriptor "(I)Ljava/lang/String;" = some ⟨[.int], some (.object "java/lang/String")⟩ := by decide +kernel
theorem lw_pd2 : parseMethodDescriptor "(Ljava/lang/Object;)Z" = some ⟨[(.object "java/lang/Object")], some .boolean⟩ := by decide +kernel
theorem lw_ef (m : MethodId) (x0 : Int32) (x1 : Int32) (x2 : Int32) (x3 : Int32) (x4 : Int32) : entryFrame m #[(.int x0), (.int x1), (.int x2), (.int x3), (.int x4)] maxLocals = mkF m 0 #[.val (.int x0), .val (.int x1), .val (.int x2), .val (.int x3), .val (.int x4), .unset, .unset, .unset, .unset, .unset, .unset, .unset, .unset] [] := by first | (simp [entryFrame, mkF, argsToLocals, Value.category, maxLocals]; done) | rfl
set_option maxRecDepth 65536 in
set_option maxHeartbeats 40000000 in
theorem rm_law (l : Launch) (Z : State) (a0 : Array Value) (hw : ∀ d ∈ tables_1, d.before a0 Z = true) (ws : List Jvm.Cond) (p1 : Int32) (p2 : Int32) (p3 : Int32) (p4 : Int32) (p5 : Int32) (cz : Int32) (h0 : Heap) (n0 : Nat) (Z0 : n0 ≤ h0.size) (OL : Old Z n0 h0) (SC : Sta Z Z.heap "java/lang/String" "COMPACT_STRINGS" "Z" (.int cz)) (hcz : ¬ cz = 0) :
    MetFree l x (head1 (Jvm.Cond.code x code maxLocals ret :: ws) room_1) (fun a U => a = #[(.int p1), (.int p2), (.int p3), (.int p4), (.int p5)] ∧ Z.Warmed39 U.vm ∧ U.heap = h0 ∧ CHv Z own_EL U.vm h0 ∧ ∀ x ∈ ([] : List Addr), Safe Z own_EL U.vm h0 x) (fun _ _ _ _ _ => True) (fun _ U o U' => OwnEndW Z own_EL U (fun v h L => v = some (.int 1) ∧ Fr n0 L) room_1.cells room_1.slots o U') := by
  refine MetFree.of_bodySF (plainFor_of_name lw_pn) hisR ?_
  intro p e s m args below meth c s₁ Bd hml0 hP hK
  obtain ⟨rfl, hZ, hh, hCH, hSL⟩ := hP
  have hx := Bd.exec
  have hby := Bd.bytes
  have hml : c.maxLocals = 13 := hml0
  have hown : s.vm.findClass "com/example/lease/lease/cli/OptionValuesOneOfPinLaw" = some m.cls := findClass_of_methodNamed Bd.named
  have hnm := (name_of_methodNamed Bd.named Bd.method).1
  have X0 : Stand p l e room_1 (s.setVm s.vm) m #[(.int p1), (.int p2), (.int p3), (.int p4), (.int p5)] below meth c s₁ [] 0 0 := Stand.of_body Bd
  have e0 : s₁.heap = h0 := by rw [← hh, Bd.state]; rfl
  have N0 := Fr.nil n0
  have KP0 := Keep.refl h0 []
  have hown : (s.setVm s.vm).vm.findClass "com/example/lease/lease/cli/OptionValuesOneOfPinLaw" = some m.cls := hown
  have hZ : Z.Warmed39 (s.setVm s.vm).vm := hZ
  have hS0 : s.Since s.vm 0 := (State.WarmedH.refl s).since 0
  have hk0 : 0 ≤ h0.size := Nat.zero_le _
  have CR0 : CHr Z own_EL s.vm h0 s.vm h0 := CHr.refl hCH
  have hEL := own_EW hw
  refine own_go (Q := (OwnEndW Z own_EL s (fun v h L => v = some (.int 1) ∧ Fr n0 L) room_1.cells room_1.slots)) ?_
  refine own_back (fun t k => castTop (lw_ef m p1 p2 p3 p4 p5) k) ?_
  show OwnGo p e below (s₁.setTop (mkF m 0 #[.val (.int p1), .val (.int p2), .val (.int p3), .val (.int p4), .val (.int p5), .unset, .unset, .unset, .unset, .unset, .unset, .unset, .unset] [])) _
  refine own_back (fun t k => XS.iload X0.here hx rfl (hb hby at_0) rfl k) ?_
  show OwnGo p e below (s₁.setTop (mkF m 2 #[.val (.int p1), .val (.int p2), .val (.int p3), .val (.int p4), .val (.int p5), .unset, .unset, .unset, .unset, .unset, .unset, .unset, .unset] [(.int p5)])) _
  refine own_back (fun t k => XS.iconst X0.here hx rfl (hb hby at_2) k) ?_
  show OwnGo p e below (s₁.setTop (mkF m 3 #[.val (.int p1), .val (.int p2), .val (.int p3), .val (.int p4), .val (.int p5), .unset, .unset, .unset, .unset, .unset, .unset, .unset, .unset] [(.int (3 : Int32)), (.int p5)])) _
  refine own_back (fun t k => XS.iand X0.here hx rfl (hb hby at_3) rfl k) ?_
  show OwnGo p e below (s₁.setTop (mkF m 4 #[.val (.int p1), .val (.int p2), .val (.int p3), .val (.int p4), .val (.int p5), .unset, .unset, .unset, .unset, .unset, .unset, .unset, .unset] [(.int (p5 &&& (3 : Int32)))])) _
  refine own_back (fun t k => XS.istore X0.here hx rfl (hb hby at_4) rfl (l' := #[.val (.int p1), .val (.int p2), .val (.int p3), .val (.int p4), .val (.int p5), .val (.int (p5 &&& (3 : Int32))), .unset, .unset, .unset, .unset, .unset, .unset, .unset]) rfl k) ?_
  show OwnGo p e below (s₁.setTop (mkF m 6 #[.val (.int p1), .val (.int p2), .val (.int p3), .val (.int p4), .val (.int p5), .val (.int (p5 &&& (3 : Int32))), .unset, .unset, .unset, .unset, .unset, .unset, .unset] [])) _
  refine own_back (fun t k => XS.iload X0.here hx rfl (hb hby at_6) rfl k) ?_
  show OwnGo p e below (s₁.setTop (mkF m 8 #[.val (.int p1), .val (.int p2), .val (.int p3), .val (.int p4), .val (.int p5), .val (.int (p5 &&& (3 : Int32))), .unset, .unset, .unset, .unset, .unset, .unset, .unset] [(.int p5)])) _
  refine own_back (fun t k => XS.iconst X0.here hx rfl (hb hby at_8) k) ?_
  show OwnGo p e below (s₁.setTop (mkF m 9 #[.val (.int p1), .val (.int p2), .val (.int p3), .val (.int p4), .val (.int p5), .val (.int (p5 &&& (3 : Int32))), .unset, .unset, .unset, .unset, .unset, .unset, .unset] [(.int (5 : Int32)), (.int p5)])) _
  refine own_back (fun t k => XS.iushr X0.here hx rfl (hb hby at_9) rfl k) ?_
  show OwnGo p e below (s₁.setTop (mkF m 10 #[.val (.int p1), .val (.int p2), .val (.int p3), .val (.int p4), .val (.int p5), .val (.int (p5 &&& (3 : Int32))), .unset, .unset, .unset, .unset, .unset, .unset, .unset] [(.int ((p5.toUInt32 >>> ((5 : Int32) &&& 31).toUInt32).toInt32))])) _
  refine own_back (fun t k => XS.bipush X0.here hx rfl (hb hby at_10) k) ?_
  show OwnGo p e below (s₁.setTop (mkF m 12 #[.val (.int p1), .val (.int p2), .val (.int p3), .val (.int p4), .val (.int p5), .val (.int (p5 &&& (3 : Int32))), .unset, .unset, .unset, .unset, .unset, .unset, .unset] [(.int (7 : Int32)), (.int ((p5.toUInt32 >>> ((5 : Int32) &&& 31).toUInt32).toInt32))])) _
  refine own_back (fun t k => XS.iand X0.here hx rfl (hb hby at_12) rfl k) ?_
  show OwnGo p e below (s₁.setTop (mkF m 13 #[.val (.int p1), .val (.int p2), .val (.int p3), .val (.int p4), .val (.int p5), .val (.int (p5 &&& (3 : Int32))), .unset, .unset, .unset, .unset, .unset, .unset, .unset] [(.int (((p5.toUInt32 >>> ((5 : Int32) &&& 31).toUInt32).toInt32) &&& (7 : Int32)))])) _
  by_cases hc13_459 : (((p5.toUInt32 >>> ((5 : Int32) &&& 31).toUInt32).toInt32) &&& (7 : Int32)) = (0 : Int32)
  · refine own_back (fun t k => XS.ifNo X0.here hx rfl (hb hby at_13) rfl (Jvm.Free.XT.i0_ne_f hc13_459) k) ?_
    show OwnGo p e below (s₁.setTop (mkF m 16 #[.val (.int p1), .val (.int p2), .val (.int p3), .val (.int p4), .val (.int p5), .val (.int (p5 &&& (3 : Int32))), .unset, .unset, .unset, .unset, .unset, .unset, .unset] [])) _
    refine own_back (fun t k => XS.iconst X0.here hx rfl (hb hby at_16) k) ?_
    show OwnGo p e below (s₁.setTop (mkF m 17 #[.val (.int p1), .val (.int p2), .val (.int p3), .val (.int p4), .val (.int p5), .val (.int (p5 &&& (3 : Int32))), .unset, .unset, .unset, .unset, .unset, .unset, .unset] [(.int (1 : Int32))])) _
    refine own_back (fun t k => XS.goto X0.here hx rfl (pc0 := 17) (pc' := 21) rfl (hb hby at_17) (by decide) (by decide) k) ?_
    show OwnGo p e below (s₁.setTop (mkF m 21 #[.val (.int p1), .val (.int p2), .val (.int p3), .val (.int p4), .val (.int p5), .val (.int (p5 &&& (3 : Int32))), .unset, .unset, .unset, .unset, .unset, .unset, .unset] [(.int (1 : Int32))])) _
    refine own_back (fun t k => XS.istore X0.here hx rfl (hb hby at_21) rfl (l' := #[.val (.int p1), .val (.int p2), .val (.int p3), .val (.int p4), .val (.int p5), .val (.int (p5 &&& (3 : Int32))), .val (.int (1 : Int32)), .unset, .unset, .unset, .unset, .unset, .unset]) rfl k) ?_
    show OwnGo p e below (s₁.setTop (mkF m 23 #[.val (.int p1), .val (.int p2), .val (.int p3), .val (.int p4), .val (.int p5), .val (.int (p5 &&& (3 : Int32))), .val (.int (1 : Int32)), .unset, .unset, .unset, .unset, .unset, .unset] [])) _
    refine own_back (fun t k => XS.iload X0.here hx rfl (hb hby at_23) rfl k) ?_
    show OwnGo p e below (s₁.setTop (mkF m 25 #[.val (.int p1), .val (.int p2), .val (.int p3), .val (.int p4), .val (.int p5), .val (.int (p5 &&& (3 : Int32))), .val (.int (1 : Int32)), .unset, .unset, .unset, .unset, .unset, .unset] [(.int (1 : Int32))])) _
    refine own_back (fun t k => XS.ifNo X0.here hx rfl (hb hby at_25) rfl (Jvm.Free.XT.i0_eq_f (by decide)) k) ?_
    show OwnGo p e below (s₁.setTop (mkF m 28 #[.val (.int p1), .val (.int p2), .val (.int p3), .val (.int p4), .val (.int p5), .val (.int (p5 &&& (3 : Int32))), .val (.int (1 : Int32)), .unset, .unset, .unset, .unset, .unset, .unset] [])) _
    refine own_back (fun t k => XS.aconstNull X0.here hx rfl (hb hby at_28) k) ?_
    show OwnGo p e below (s₁.setTop (mkF m 29 #[.val (.int p1), .val (.int p2), .val (.int p3), .val (.int p4), .val (.int p5), .val (.int (p5 &&& (3 : Int32))), .val (.int (1 : Int32)), .unset, .unset, .unset, .unset, .unset, .unset] [.null])) _
    refine own_back (fun t k => XS.goto X0.here hx rfl (pc0 := 29) (pc' := 36) rfl (hb hby at_29) (by decide) (by decide) k) ?_
    show OwnGo p e below (s₁.setTop (mkF m 36 #[.val (.int p1), .val (.int p2), .val (.int p3), .val (.int p4), .val (.int p5), .val (.int (p5 &&& (3 : Int32))), .val (.int (1 : Int32)), .unset, .unset, .unset, .unset, .unset, .unset] [.null])) _
    refine own_back (fun t k => XS.astore X0.here hx rfl (hb hby at_36) rfl rfl (l' := #[.val (.int p1), .val (.int p2), .val (.int p3), .val (.int p4), .val (.int p5), .val (.int (p5 &&& (3 : Int32))), .val (.int (1 : Int32)), .val .null, .unset, .unset, .unset, .unset, .unset]) rfl k) ?_
    show OwnGo p e below (s₁.setTop (mkF m 38 #[.val (.int p1), .val (.int p2), .val (.int p3), .val (.int p4), .val (.int p5), .val (.int (p5 &&& (3 : Int32))), .val (.int (1 : Int32)), .val .null, .unset, .unset, .unset, .unset, .unset] [])) _
    refine own_back (fun t k => XS.iload X0.here hx rfl (hb hby at_38) rfl k) ?_
    show OwnGo p e below (s₁.setTop (mkF m 40 #[.val (.int p1), .val (.int p2), .val (.int p3), .val (.int p4), .val (.int p5), .val (.int (p5 &&& (3 : Int32))), .val (.int (1 : Int32)), .val .null, .unset, .unset, .unset, .unset, .unset] [(.int p5)])) _
    refine own_back (fun t k => XS.iconst X0.here hx rfl (hb hby at_40) k) ?_
    show OwnGo p e below (s₁.setTop (mkF m 41 #[.val (.int p1), .val (.int p2), .val (.int p3), .val (.int p4), .val (.int p5), .val (.int (p5 &&& (3 : Int32))), .val (.int (1 : Int32)), .val .null, .unset, .unset, .unset, .unset, .unset] [(.int (2 : Int32)), (.int p5)])) _
    refine own_back (fun t k => XS.iushr X0.here hx rfl (hb hby at_41) rfl k) ?_
    show OwnGo p e below (s₁.setTop (mkF m 42 #[.val (.int p1), .val (.int p2), .val (.int p3), .val (.int p4), .val (.int p5), .val (.int (p5 &&& (3 : Int32))), .val (.int (1 : Int32)), .val .null, .unset, .unset, .unset, .unset, .unset] [(.int ((p5.toUInt32 >>> ((2 : Int32) &&& 31).toUInt32).toInt32))])) _
    refine own_back (fun t k => XS.iconst X0.here hx rfl (hb hby at_42) k) ?_
    show OwnGo p e below (s₁.setTop (mkF m 43 #[.val (.int p1), .val (.int p2), .val (.int p3), .val (.int p4), .val (.int p5), .val (.int (p5 &&& (3 : Int32))), .val (.int (1 : Int32)), .val .null, .unset, .unset, .unset, .unset, .unset] [(.int (1 : Int32)), (.int ((p5.toUInt32 >>> ((2 : Int32) &&& 31).toUInt32).toInt32))])) _
    refine own_back (fun t k => XS.iand X0.here hx rfl (hb hby at_43) rfl k) ?_
    show OwnGo p e below (s₁.setTop (mkF m 44 #[.val (.int p1), .val (.int p2), .val (.int p3), .val (.int p4), .val (.int p5), .val (.int (p5 &&& (3 : Int32))), .val (.int (1 : Int32)), .val .null, .unset, .unset, .unset, .unset, .unset] [(.int (((p5.toUInt32 >>> ((2 : Int32) &&& 31).toUInt32).toInt32) &&& (1 : Int32)))])) _
    have tl58_460 : ∀ (Tj460 : State) (hj460 : Heap) (s0 : Addr) (u0 : List Int32), OwnSt p l e room_1 s m #[(.int p1), (.int p2), (.int p3), (.int p4), (.int p5)] below meth c Z own_EL "com/example/lease/lease/cli/OptionValuesOneOfPinLaw" n0 h0 [] Tj460 hj460 6 12 → OwnStr Z hj460 s0 u0 → OwnGo p e below (Tj460.setTop (mkF m 58 #[.val (.int p1), .val (.int p2), .val (.int p3), .val (.int p4), .val (.int p5), .val (.int (p5 &&& (3 : Int32))), .val (.int (1 : Int32)), .val .null, .unset, .unset, .unset, .unset, .unset] [(.ref s0)])) (OwnEndW Z own_EL s (fun v h L => v = some (.int 1) ∧ Fr n0 L) room_1.cells room_1.slots) := by
      intro Tj460 hj460 s0 u0 HS460 hs460_0
      obtain ⟨vj460, kj460, Lj460, Xj460, ej460, hSj460, hkj460, hZj460, hownj460, CRj460, Oj460, KPj460, Zj460, Nj460⟩ := HS460
      show OwnGo p e below (Tj460.setTop (mkF m 58 #[.val (.int p1), .val (.int p2), .val (.int p3), .val (.int p4), .val (.int p5), .val (.int (p5 &&& (3 : Int32))), .val (.int (1 : Int32)), .val .null, .unset, .unset, .unset, .unset, .unset] [(.ref s0)])) _
      refine own_back (fun t k => XS.astore Xj460.here hx rfl (hb hby at_58) rfl rfl (l' := #[.val (.int p1), .val (.int p2), .val (.int p3), .val (.int p4), .val (.int p5), .val (.int (p5 &&& (3 : Int32))), .val (.int (1 : Int32)), .val .null, .val (.ref s0), .unset, .unset, .unset, .unset]) rfl k) ?_
      show OwnGo p e below (Tj460.setTop (mkF m 60 #[.val (.int p1), .val (.int p2), .val (.int p3), .val (.int p4), .val (.int p5), .val (.int (p5 &&& (3 : Int32))), .val (.int (1 : Int32)), .val .null, .val (.ref s0), .unset, .unset, .unset, .unset] [])) _
      refine own_back (fun t k => XS.iload Xj460.here hx rfl (hb hby at_60) rfl k) ?_
      show OwnGo p e below (Tj460.setTop (mkF m 62 #[.val (.int p1), .val (.int p2), .val (.int p3), .val (.int p4), .val (.int p5), .val (.int (p5 &&& (3 : Int32))), .val (.int (1 : Int32)), .val .null, .val (.ref s0), .unset, .unset, .unset, .unset] [(.int p5)])) _
      refine own_back (fun t k => XS.iconst Xj460.here hx rfl (hb hby at_62) k) ?_
      show OwnGo p e below (Tj460.setTop (mkF m 63 #[.val (.int p1), .val (.int p2), .val (.int p3), .val (.int p4), .val (.int p5), .val (.int (p5 &&& (3 : Int32))), .val (.int (1 : Int32)), .val .null, .val (.ref s0), .unset, .unset, .unset, .unset] [(.int (3 : Int32)), (.int p5)])) _
      refine own_back (fun t k => XS.iushr Xj460.here hx rfl (hb hby at_63) rfl k) ?_
      show OwnGo p e below (Tj460.setTop (mkF m 64 #[.val (.int p1), .val (.int p2), .val (.int p3), .val (.int p4), .val (.int p5), .val (.int (p5 &&& (3 : Int32))), .val (.int (1 : Int32)), .val .null, .val (.ref s0), .unset, .unset, .unset, .unset] [(.int ((p5.toUInt32 >>> ((3 : Int32) &&& 31).toUInt32).toInt32))])) _
      refine own_back (fun t k => XS.iconst Xj460.here hx rfl (hb hby at_64) k) ?_
      show OwnGo p e below (Tj460.setTop (mkF m 65 #[.val (.int p1), .val (.int p2), .val (.int p3), .val (.int p4), .val (.int p5), .val (.int (p5 &&& (3 : Int32))), .val (.int (1 : Int32)), .val .null, .val (.ref s0), .unset, .unset, .unset, .unset] [(.int (1 : Int32)), (.int ((p5.toUInt32 >>> ((3 : Int32) &&& 31).toUInt32).toInt32))])) _
      refine own_back (fun t k => XS.iand Xj460.here hx rfl (hb hby at_65) rfl k) ?_
      show OwnGo p e below (Tj460.setTop (mkF m 66 #[.val (.int p1), .val (.int p2), .val (.int p3), .val (.int p4), .val (.int p5), .val (.int (p5 &&& (3 : Int32))), .val (.int (1 : Int32)), .val .null, .val (.ref s0), .unset, .unset, .unset, .unset] [(.int (((p5.toUInt32 >>> ((3 : Int32) &&& 31).toUInt32).toInt32) &&& (1 : Int32)))])) _
      have tl80_461 : ∀ (Tj461 : State) (hj461 : Heap) (s1 : Addr) (u1 : List Int32), OwnSt p l e room_1 s m #[(.int p1), (.int p2), (.int p3), (.int p4), (.int p5)] below meth c Z own_EL "com/example/lease/lease/cli/OptionValuesOneOfPinLaw" n0 h0 [] Tj461 hj461 12 24 → OwnStr Z hj461 s0 u0 → OwnStr Z hj461 s1 u1 → OwnGo p e below (Tj461.setTop (mkF m 80 #[.val (.int p1), .val (.int p2), .val (.int p3), .val (.int p4), .val (.int p5), .val (.int (p5 &&& (3 : Int32))), .val (.int (1 : Int32)), .val .null, .val (.ref s0), .unset, .unset, .unset, .unset] [(.ref s1)])) (OwnEndW Z own_EL s (fun v h L => v = some (.int 1) ∧ Fr n0 L) room_1.cells room_1.slots) := by
        intro Tj461 hj461 s1 u1 HS461 hs461_0 hs461_1
        obtain ⟨vj461, kj461, Lj461, Xj461, ej461, hSj461, hkj461, hZj461, hownj461, CRj461, Oj461, KPj461, Zj461, Nj461⟩ := HS461
        show OwnGo p e below (Tj461.setTop (mkF m 80 #[.val (.int p1), .val (.int p2), .val (.int p3), .val (.int p4), .val (.int p5), .val (.int (p5 &&& (3 : Int32))), .val (.int (1 : Int32)), .val .null, .val (.ref s0), .unset, .unset, .unset, .unset] [(.ref s1)])) _
        refine own_back (fun t k => XS.astore Xj461.here hx rfl (hb hby at_80) rfl rfl (l' := #[.val (.int p1), .val (.int p2), .val (.int p3), .val (.int p4), .val (.int p5), .val (.int (p5 &&& (3 : Int32))), .val (.int (1 : Int32)), .val .null, .val (.ref s0), .val (.ref s1), .unset, .unset, .unset]) rfl k) ?_
        show OwnGo p e below (Tj461.setTop (mkF m 82 #[.val (.int p1), .val (.int p2), .val (.int p3), .val (.int p4), .val (.int p5), .val (.int (p5 &&& (3 : Int32))), .val (.int (1 : Int32)), .val .null, .val (.ref s0), .val (.ref s1), .unset, .unset, .unset] [])) _
        refine own_back (fun t k => XS.iload Xj461.here hx rfl (hb hby at_82) rfl k) ?_
        show OwnGo p e below (Tj461.setTop (mkF m 84 #[.val (.int p1), .val (.int p2), .val (.int p3), .val (.int p4), .val (.int p5), .val (.int (p5 &&& (3 : Int32))), .val (.int (1 : Int32)), .val .null, .val (.ref s0), .val (.ref s1), .unset, .unset, .unset] [(.int p5)])) _
        refine own_back (fun t k => XS.iconst Xj461.here hx rfl (hb hby at_84) k) ?_
        show OwnGo p e below (Tj461.setTop (mkF m 85 #[.val (.int p1), .val (.int p2), .val (.int p3), .val (.int p4), .val (.int p5), .val (.int (p5 &&& (3 : Int32))), .val (.int (1 : Int32)), .val .null, .val (.ref s0), .val (.ref s1), .unset, .unset, .unset] [(.int (4 : Int32)), (.int p5)])) _
        refine own_back (fun t k => XS.iushr Xj461.here hx rfl (hb hby at_85) rfl k) ?_
        show OwnGo p e below (Tj461.setTop (mkF m 86 #[.val (.int p1), .val (.int p2), .val (.int p3), .val (.int p4), .val (.int p5), .val (.int (p5 &&& (3 : Int32))), .val (.int (1 : Int32)), .val .null, .val (.ref s0), .val (.ref s1), .unset, .unset, .unset] [(.int ((p5.toUInt32 >>> ((4 : Int32) &&& 31).toUInt32).toInt32))])) _
        refine own_back (fun t k => XS.iconst Xj461.here hx rfl (hb hby at_86) k) ?_
        show OwnGo p e below (Tj461.setTop (mkF m 87 #[.val (.int p1), .val (.int p2), .val (.int p3), .val (.int p4), .val (.int p5), .val (.int (p5 &&& (3 : Int32))), .val (.int (1 : Int32)), .val .null, .val (.ref s0), .val (.ref s1), .unset, .unset, .unset] [(.int (1 : Int32)), (.int ((p5.toUInt32 >>> ((4 : Int32) &&& 31).toUInt32).toInt32))])) _
        refine own_back (fun t k => XS.iand Xj461.here hx rfl (hb hby at_87) rfl k) ?_
        show OwnGo p e below (Tj461.setTop (mkF m 88 #[.val (.int p1), .val (.int p2), .val (.int p3), .val (.int p4), .val (.int p5), .val (.int (p5 &&& (3 : Int32))), .val (.int (1 : Int32)), .val .null, .val (.ref s0), .val (.ref s1), .unset, .unset, .unset] [(.int (((p5.toUInt32 >>> ((4 : Int32) &&& 31).toUInt32).toInt32) &&& (1 : Int32)))])) _
        have tl102_462 : ∀ (Tj462 : State) (hj462 : Heap) (s2 : Addr) (u2 : List Int32), OwnSt p l e room_1 s m #[(.int p1), (.int p2), (.int p3), (.int p4), (.int p5)] below meth c Z own_EL "com/example/lease/lease/cli/OptionValuesOneOfPinLaw" n0 h0 [] Tj462 hj462 18 36 → OwnStr Z hj462 s0 u0 → OwnStr Z hj462 s1 u1 → OwnStr Z hj462 s2 u2 → OwnGo p e below (Tj462.setTop (mkF m 102 #[.val (.int p1), .val (.int p2), .val (.int p3), .val (.int p4), .val (.int p5), .val (.int (p5 &&& (3 : Int32))), .val (.int (1 : Int32)), .val .null, .val (.ref s0), .val (.ref s1), .unset, .unset, .unset] [(.ref s2)])) (OwnEndW Z own_EL s (fun v h L => v = some (.int 1) ∧ Fr n0 L) room_1.cells room_1.slots) := by
          intro Tj462 hj462 s2 u2 HS462 hs462_0 hs462_1 hs462_2
          obtain ⟨vj462, kj462, Lj462, Xj462, ej462, hSj462, hkj462, hZj462, hownj462, CRj462, Oj462, KPj462, Zj462, Nj462⟩ := HS462
          show OwnGo p e below (Tj462.setTop (mkF m 102 #[.val (.int p1), .val (.int p2), .val (.int p3), .val (.int p4), .val (.int p5), .val (.int (p5 &&& (3 : Int32))), .val (.int (1 : Int32)), .val .null, .val (.ref s0), .val (.ref s1), .unset, .unset, .unset] [(.ref s2)])) _
          refine own_back (fun t k => XS.astore Xj462.here hx rfl (hb hby at_102) rfl rfl (l' := #[.val (.int p1), .val (.int p2), .val (.int p3), .val (.int p4), .val (.int p5), .val (.int (p5 &&& (3 : Int32))), .val (.int (1 : Int32)), .val .null, .val (.ref s0), .val (.ref s1), .val (.ref s2), .unset, .unset]) rfl k) ?_
          show OwnGo p e below (Tj462.setTop (mkF m 104 #[.val (.int p1), .val (.int p2), .val (.int p3), .val (.int p4), .val (.int p5), .val (.int (p5 &&& (3 : Int32))), .val (.int (1 : Int32)), .val .null, .val (.ref s0), .val (.ref s1), .val (.ref s2), .unset, .unset] [])) _
          rcases own_and3 p5 with hn | hn | hn | hn
          · rw [hn]
            show OwnGo p e below (Tj462.setTop (mkF m 104 #[.val (.int p1), .val (.int p2), .val (.int p3), .val (.int p4), .val (.int p5), .val (.int (0 : Int32)), .val (.int (1 : Int32)), .val .null, .val (.ref s0), .val (.ref s1), .val (.ref s2), .unset, .unset] [])) _
            refine own_back (fun t k => XS.iload Xj462.here hx rfl (hb hby at_104) rfl k) ?_
            show OwnGo p e below (Tj462.setTop (mkF m 106 #[.val (.int p1), .val (.int p2), .val (.int p3), .val (.int p4), .val (.int p5), .val (.int (0 : Int32)), .val (.int (1 : Int32)), .val .null, .val (.ref s0), .val (.ref s1), .val (.ref s2), .unset, .unset] [(.int (0 : Int32))])) _
            obtain ⟨T463, h463, k463, X463, e463, E463, A463, O463, st463⟩ := newR Xj462 hx hZj462 hownj462 (hw _ (List.mem_of_getElem? (i := 4) rfl)) (hw _ (List.mem_of_getElem? (i := 34) rfl)) ej462 (g := (mkF m 106 #[.val (.int p1), .val (.int p2), .val (.int p3), .val (.int p4), .val (.int p5), .val (.int (0 : Int32)), .val (.int (1 : Int32)), .val .null, .val (.ref s0), .val (.ref s1), .val (.ref s2), .unset, .unset] [(.int (0 : Int32))])) rfl (hb hby at_106) rfl (by decide) (cap := 0) (by decide) (by decide) (Nat.le_of_ble_eq_true rfl) (Nat.le_of_ble_eq_true rfl)
            obtain ⟨b463, g463⟩ : ∃ z, z = hj462.size := ⟨_, rfl⟩
            have ge464 : n0 ≤ b463 := Nat.le_trans Zj462 (Nat.le_of_eq g463.symm)
            have sz465 : h0.size ≤ b463 := Nat.le_trans KPj462.1 (Nat.le_of_eq g463.symm)
            rw [← g463] at A463 st463
            have O466 := Oj462.ext E463
            have KP467 := KPj462.ext E463
            have Zs468 := Nat.le_trans Zj462 E463.1
            have CR469 := CRj462.trans (CHr.ext E463 CRj462.1)
            have hk470 := Nat.le_trans hkj462 E463.1
            have f471 := hs462_0.ext E463
            have f472 := hs462_1.ext E463
            have f473 := hs462_2.ext E463
            have V474 : Arv Z h463 b463 k463 (.object "java/lang/String") (0 : Int32) [] .null := (Arv.new A463 (by decide)).pad (pad_rep [] .null 0)
            have sf475 := Safe.ext E463 CRj462.1 (Safe.new (Nat.le_of_eq g463.symm))
            refine own_back st463 ?_
            show OwnGo p e below (T463.setTop (mkF m 109 #[.val (.int p1), .val (.int p2), .val (.int p3), .val (.int p4), .val (.int p5), .val (.int (0 : Int32)), .val (.int (1 : Int32)), .val .null, .val (.ref s0), .val (.ref s1), .val (.ref s2), .unset, .unset] [(.ref b463)])) _
            refine own_back (fun t k => XS.astore X463.here hx rfl (hb hby at_109) rfl rfl (l' := #[.val (.int p1), .val (.int p2), .val (.int p3), .val (.int p4), .val (.int p5), .val (.int (0 : Int32)), .val (.int (1 : Int32)), .val .null, .val (.ref s0), .val (.ref s1), .val (.ref s2), .val (.ref b463), .unset]) rfl k) ?_
            show OwnGo p e below (T463.setTop (mkF m 111 #[.val (.int p1), .val (.int p2), .val (.int p3), .val (.int p4), .val (.int p5), .val (.int (0 : Int32)), .val (.int (1 : Int32)), .val .null, .val (.ref s0), .val (.ref s1), .val (.ref s2), .val (.ref b463), .unset] [])) _
            refine own_back (fun t k => XS.iload X463.here hx rfl (hb hby at_111) rfl k) ?_
            show OwnGo p e below (T463.setTop (mkF m 113 #[.val (.int p1), .val (.int p2), .val (.int p3), .val (.int p4), .val (.int p5), .val (.int (0 : Int32)), .val (.int (1 : Int32)), .val .null, .val (.ref s0), .val (.ref s1), .val (.ref s2), .val (.ref b463), .unset] [(.int (0 : Int32))])) _
            refine own_back (fun t k => XS.ifYes X463.here hx rfl (pc0 := 113) (pc' := 122) rfl (hb hby at_113) rfl (Jvm.Free.XT.i0_le_t (by decide)) (by decide) (by decide) k) ?_
            show OwnGo p e below (T463.setTop (mkF m 122 #[.val (.int p1), .val (.int p2), .val (.int p3), .val (.int p4), .val (.int p5), .val (.int (0 : Int32)), .val (.int (1 : Int32)), .val .null, .val (.ref s0), .val (.ref s1), .val (.ref s2), .val (.ref b463), .unset] [])) _
            refine own_back (fun t k => XS.iload X463.here hx rfl (hb hby at_122) rfl k) ?_
            show OwnGo p e below (T463.setTop (mkF m 124 #[.val (.int p1), .val (.int p2), .val (.int p3), .val (.int p4), .val (.int p5), .val (.int (0 : Int32)), .val (.int (1 : Int32)), .val .null, .val (.ref s0), .val (.ref s1), .val (.ref s2), .val (.ref b463), .unset] [(.int (0 : Int32))])) _
            refine own_back (fun t k => XS.iconst X463.here hx rfl (hb hby at_124) k) ?_
            show OwnGo p e below (T463.setTop (mkF m 125 #[.val (.int p1), .val (.int p2), .val (.int p3), .val (.int p4), .val (.int p5), .val (.int (0 : Int32)), .val (.int (1 : Int32)), .val .null, .val (.ref s0), .val (.ref s1), .val (.ref s2), .val (.ref b463), .unset] [(.int (1 : Int32)), (.int (0 : Int32))])) _
            refine own_back (fun t k => XS.icmpYes X463.here hx rfl (pc0 := 125) (pc' := 134) rfl (hb hby at_125) rfl (Jvm.Free.XT.ii_le_t (by decide)) (by decide) (by decide) k) ?_
            show OwnGo p e below (T463.setTop (mkF m 134 #[.val (.int p1), .val (.int p2), .val (.int p3), .val (.int p4), .val (.int p5), .val (.int (0 : Int32)), .val (.int (1 : Int32)), .val .null, .val (.ref s0), .val (.ref s1), .val (.ref s2), .val (.ref b463), .unset] [])) _
            refine own_back (fun t k => XS.iload X463.here hx rfl (hb hby at_134) rfl k) ?_
            show OwnGo p e below (T463.setTop (mkF m 136 #[.val (.int p1), .val (.int p2), .val (.int p3), .val (.int p4), .val (.int p5), .val (.int (0 : Int32)), .val (.int (1 : Int32)), .val .null, .val (.ref s0), .val (.ref s1), .val (.ref s2), .val (.ref b463), .unset] [(.int (0 : Int32))])) _
            refine own_back (fun t k => XS.iconst X463.here hx rfl (hb hby at_136) k) ?_
            show OwnGo p e below (T463.setTop (mkF m 137 #[.val (.int p1), .val (.int p2), .val (.int p3), .val (.int p4), .val (.int p5), .val (.int (0 : Int32)), .val (.int (1 : Int32)), .val .null, .val (.ref s0), .val (.ref s1), .val (.ref s2), .val (.ref b463), .unset] [(.int (2 : Int32)), (.int (0 : Int32))])) _
            refine own_back (fun t k => XS.icmpYes X463.here hx rfl (pc0 := 137) (pc' := 146) rfl (hb hby at_137) rfl (Jvm.Free.XT.ii_le_t (by decide)) (by decide) (by decide) k) ?_
            show OwnGo p e below (T463.setTop (mkF m 146 #[.val (.int p1), .val (.int p2), .val (.int p3), .val (.int p4), .val (.int p5), .val (.int (0 : Int32)), .val (.int (1 : Int32)), .val .null, .val (.ref s0), .val (.ref s1), .val (.ref s2), .val (.ref b463), .unset] [])) _
            refine own_back (fun t k => XS.iconst X463.here hx rfl (hb hby at_146) k) ?_
            show OwnGo p e below (T463.setTop (mkF m 147 #[.val (.int p1), .val (.int p2), .val (.int p3), .val (.int p4), .val (.int p5), .val (.int (0 : Int32)), .val (.int (1 : Int32)), .val .null, .val (.ref s0), .val (.ref s1), .val (.ref s2), .val (.ref b463), .unset] [(.int (0 : Int32))])) _
            refine own_back (fun t k => XS.istore X463.here hx rfl (hb hby at_147) rfl (l' := #[.val (.int p1), .val (.int p2), .val (.int p3), .val (.int p4), .val (.int p5), .val (.int (0 : Int32)), .val (.int (1 : Int32)), .val .null, .val (.ref s0), .val (.ref s1), .val (.ref s2), .val (.ref b463), .val (.int (0 : Int32))]) rfl k) ?_
            show OwnGo p e below (T463.setTop (mkF m 149 #[.val (.int p1), .val (.int p2), .val (.int p3), .val (.int p4), .val (.int p5), .val (.int (0 : Int32)), .val (.int (1 : Int32)), .val .null, .val (.ref s0), .val (.ref s1), .val (.ref s2), .val (.ref b463), .val (.int (0 : Int32))] [])) _
            refine own_back (fun t k => XS.iload X463.here hx rfl (hb hby at_149) rfl k) ?_
            show OwnGo p e below (T463.setTop (mkF m 151 #[.val (.int p1), .val (.int p2), .val (.int p3), .val (.int p4), .val (.int p5), .val (.int (0 : Int32)), .val (.int (1 : Int32)), .val .null, .val (.ref s0), .val (.ref s1), .val (.ref s2), .val (.ref b463), .val (.int (0 : Int32))] [(.int (1 : Int32))])) _
            refine own_back (fun t k => XS.ifYes X463.here hx rfl (pc0 := 151) (pc' := 208) rfl (hb hby at_151) rfl (Jvm.Free.XT.i0_ne_t (by decide)) (by decide) (by decide) k) ?_
            show OwnGo p e below (T463.setTop (mkF m 208 #[.val (.int p1), .val (.int p2), .val (.int p3), .val (.int p4), .val (.int p5), .val (.int (0 : Int32)), .val (.int (1 : Int32)), .val .null, .val (.ref s0), .val (.ref s1), .val (.ref s2), .val (.ref b463), .val (.int (0 : Int32))] [])) _
            refine own_back (fun t k => XS.aload X463.here hx rfl (hb hby at_208) rfl rfl k) ?_
            show OwnGo p e below (T463.setTop (mkF m 210 #[.val (.int p1), .val (.int p2), .val (.int p3), .val (.int p4), .val (.int p5), .val (.int (0 : Int32)), .val (.int (1 : Int32)), .val .null, .val (.ref s0), .val (.ref s1), .val (.ref s2), .val (.ref b463), .val (.int (0 : Int32))] [.null])) _
            refine own_back (fun t k => XS.aload X463.here hx rfl (hb hby at_210) rfl rfl k) ?_
            show OwnGo p e below (T463.setTop (mkF m 212 #[.val (.int p1), .val (.int p2), .val (.int p3), .val (.int p4), .val (.int p5), .val (.int (0 : Int32)), .val (.int (1 : Int32)), .val .null, .val (.ref s0), .val (.ref s1), .val (.ref s2), .val (.ref b463), .val (.int (0 : Int32))] [(.ref b463), .null])) _
            obtain ⟨_, _, ⟨T476, L476, k476, n476⟩, -, X476, ⟨Lc476, hQ476, l476, y476, z476⟩, st476⟩ := Jvm.LawKit.callS X463 hx (y := (⟨"com/example/lease/lease/cli/OptionValues", "oneOf", "(Ljava/lang/String;[Ljava/lang/String;)Z"⟩ : MethodName)) hownj462 (mvT hZj462 (hw _ (List.mem_of_getElem? (i := 35) rfl))) (mvT hZj462 (hw _ (List.mem_of_getElem? (i := 36) rfl))) (mvT hZj462 (hw _ (List.mem_of_getElem? (i := 37) rfl))) (mvT hZj462 (hw _ (List.mem_of_getElem? (i := 38) rfl))) (by decide) (own_backN (W := 0) (rm_oo0n l Z a0 hw [] b463 k463 h463 n0 Zs468 V474) hZj462 (hw _ (List.mem_of_getElem? (i := 38) rfl)) (hw _ (List.mem_of_getElem? (i := 37) rfl)) (by decide) (by decide)) (g := (mkF m 212 #[.val (.int p1), .val (.int p2), .val (.int p3), .val (.int p4), .val (.int p5), .val (.int (0 : Int32)), .val (.int (1 : Int32)), .val .null, .val (.ref s0), .val (.ref s1), .val (.ref s2), .val (.ref b463), .val (.int (0 : Int32))] [(.ref b463), .null])) rfl (by rw [hml]; rfl) (argsL := [.null, (.ref b463)]) (rest := []) (lenOf lw_pd0 rfl) rfl (by show 2 * 0 + _ ≤ _; exact Nat.le_of_eq rfl) (hb hby at_212) (fun _ _ => ⟨rfl, e463, Nat.le_of_ble_eq_true rfl, Nat.le_of_ble_eq_true rfl⟩)
            dsimp only [Pt.U, Pt.locs, Pt.cells, Pt.slots] at X476 l476 y476 z476 st476 hQ476
            subst l476 y476 z476
            obtain ⟨rfl, N476q, hh476⟩ := hQ476
            refine own_back st476 ?_
            have N476 := Fr.app Nj462 N476q
            show OwnGo p e below (T476.setTop (mkF m 215 #[.val (.int p1), .val (.int p2), .val (.int p3), .val (.int p4), .val (.int p5), .val (.int (0 : Int32)), .val (.int (1 : Int32)), .val .null, .val (.ref s0), .val (.ref s1), .val (.ref s2), .val (.ref b463), .val (.int (0 : Int32))] [(.int (0 : Int32))])) _
            refine own_back (fun t k => XS.iload X476.here hx rfl (hb hby at_215) rfl k) ?_
            show OwnGo p e below (T476.setTop (mkF m 217 #[.val (.int p1), .val (.int p2), .val (.int p3), .val (.int p4), .val (.int p5), .val (.int (0 : Int32)), .val (.int (1 : Int32)), .val .null, .val (.ref s0), .val (.ref s1), .val (.ref s2), .val (.ref b463), .val (.int (0 : Int32))] [(.int (0 : Int32)), (.int (0 : Int32))])) _
            refine own_back (fun t k => XS.icmpNo X476.here hx rfl (hb hby at_217) rfl (Jvm.Free.XT.ii_ne_f (by decide)) k) ?_
            show OwnGo p e below (T476.setTop (mkF m 220 #[.val (.int p1), .val (.int p2), .val (.int p3), .val (.int p4), .val (.int p5), .val (.int (0 : Int32)), .val (.int (1 : Int32)), .val .null, .val (.ref s0), .val (.ref s1), .val (.ref s2), .val (.ref b463), .val (.int (0 : Int32))] [])) _
            refine own_back (fun t k => XS.iconst X476.here hx rfl (hb hby at_220) k) ?_
            show OwnGo p e below (T476.setTop (mkF m 221 #[.val (.int p1), .val (.int p2), .val (.int p3), .val (.int p4), .val (.int p5), .val (.int (0 : Int32)), .val (.int (1 : Int32)), .val .null, .val (.ref s0), .val (.ref s1), .val (.ref s2), .val (.ref b463), .val (.int (0 : Int32))] [(.int (1 : Int32))])) _
            refine own_back (fun t k => XS.goto X476.here hx rfl (pc0 := 221) (pc' := 225) rfl (hb hby at_221) (by decide) (by decide) k) ?_
            show OwnGo p e below (T476.setTop (mkF m 225 #[.val (.int p1), .val (.int p2), .val (.int p3), .val (.int p4), .val (.int p5), .val (.int (0 : Int32)), .val (.int (1 : Int32)), .val .null, .val (.ref s0), .val (.ref s1), .val (.ref s2), .val (.ref b463), .val (.int (0 : Int32))] [(.int (1 : Int32))])) _
            refine own_retNW X476 hx Bd.notSynchronized (t := .boolean) (z := (1 : Int32)) Bd.returns (by simp) rfl hSj462 hk470 hZj462 hEL (hh ▸ CR469) (hb hby at_225) hh476 (Nat.le_of_ble_eq_true rfl) (Nat.le_of_ble_eq_true rfl) ?_
            exact ⟨rfl, N476⟩
          · rw [hn]
            show OwnGo p e below (Tj462.setTop (mkF m 104 #[.val (.int p1), .val (.int p2), .val (.int p3), .val (.int p4), .val (.int p5), .val (.int (1 : Int32)), .val (.int (1 : Int32)), .val .null, .val (.ref s0), .val (.ref s1), .val (.ref s2), .unset, .unset] [])) _
            refine own_back (fun t k => XS.iload Xj462.here hx rfl (hb hby at_104) rfl k) ?_
            show OwnGo p e below (Tj462.setTop (mkF m 106 #[.val (.int p1), .val (.int p2), .val (.int p3), .val (.int p4), .val (.int p5), .val (.int (1 : Int32)), .val (.int (1 : Int32)), .val .null, .val (.ref s0), .val (.ref s1), .val (.ref s2), .unset, .unset] [(.int (1 : Int32))])) _
            obtain ⟨T477, h477, k477, X477, e477, E477, A477, O477, st477⟩ := newR Xj462 hx hZj462 hownj462 (hw _ (List.mem_of_getElem? (i := 4) rfl)) (hw _ (List.mem_of_getElem? (i := 34) rfl)) ej462 (g := (mkF m 106 #[.val (.int p1), .val (.int p2), .val (.int p3), .val (.int p4), .val (.int p5), .val (.int (1 : Int32)), .val (.int (1 : Int32)), .val .null, .val (.ref s0), .val (.ref s1), .val (.ref s2), .unset, .unset] [(.int (1 : Int32))])) rfl (hb hby at_106) rfl (by decide) (cap := 1) (by decide) (by decide) (Nat.le_of_ble_eq_true rfl) (Nat.le_of_ble_eq_true rfl)
            obtain ⟨b477, g477⟩ : ∃ z, z = hj462.size := ⟨_, rfl⟩
            have ge478 : n0 ≤ b477 := Nat.le_trans Zj462 (Nat.le_of_eq g477.symm)
            have sz479 : h0.size ≤ b477 := Nat.le_trans KPj462.1 (Nat.le_of_eq g477.symm)
            rw [← g477] at A477 st477
            have O480 := Oj462.ext E477
            have KP481 := KPj462.ext E477
            have Zs482 := Nat.le_trans Zj462 E477.1
            have CR483 := CRj462.trans (CHr.ext E477 CRj462.1)
            have hk484 := Nat.le_trans hkj462 E477.1
            have f485 := hs462_0.ext E477
            have f486 := hs462_1.ext E477
            have f487 := hs462_2.ext E477
            have V488 : Arv Z h477 b477 k477 (.object "java/lang/String") (1 : Int32) [.null] .null := (Arv.new A477 (by decide)).pad (pad_rep [] .null 1)
            have sf489 := Safe.ext E477 CRj462.1 (Safe.new (Nat.le_of_eq g477.symm))
            refine own_back st477 ?_
            show OwnGo p e below (T477.setTop (mkF m 109 #[.val (.int p1), .val (.int p2), .val (.int p3), .val (.int p4), .val (.int p5), .val (.int (1 : Int32)), .val (.int (1 : Int32)), .val .null, .val (.ref s0), .val (.ref s1), .val (.ref s2), .unset, .unset] [(.ref b477)])) _
            refine own_back (fun t k => XS.astore X477.here hx rfl (hb hby at_109) rfl rfl (l' := #[.val (.int p1), .val (.int p2), .val (.int p3), .val (.int p4), .val (.int p5), .val (.int (1 : Int32)), .val (.int (1 : Int32)), .val .null, .val (.ref s0), .val (.ref s1), .val (.ref s2), .val (.ref b477), .unset]) rfl k) ?_
            show OwnGo p e below (T477.setTop (mkF m 111 #[.val (.int p1), .val (.int p2), .val (.int p3), .val (.int p4), .val (.int p5), .val (.int (1 : Int32)), .val (.int (1 : Int32)), .val .null, .val (.ref s0), .val (.ref s1), .val (.ref s2), .val (.ref b477), .unset] [])) _
            refine own_back (fun t k => XS.iload X477.here hx rfl (hb hby at_111) rfl k) ?_
            show OwnGo p e below (T477.setTop (mkF m 113 #[.val (.int p1), .val (.int p2), .val (.int p3), .val (.int p4), .val (.int p5), .val (.int (1 : Int32)), .val (.int (1 : Int32)), .val .null, .val (.ref s0), .val (.ref s1), .val (.ref s2), .val (.ref b477), .unset] [(.int (1 : Int32))])) _
            refine own_back (fun t k => XS.ifNo X477.here hx rfl (hb hby at_113) rfl (Jvm.Free.XT.i0_le_f (by decide)) k) ?_
            show OwnGo p e below (T477.setTop (mkF m 116 #[.val (.int p1), .val (.int p2), .val (.int p3), .val (.int p4), .val (.int p5), .val (.int (1 : Int32)), .val (.int (1 : Int32)), .val .null, .val (.ref s0), .val (.ref s1), .val (.ref s2), .val (.ref b477), .unset] [])) _
            refine own_back (fun t k => XS.aload X477.here hx rfl (hb hby at_116) rfl rfl k) ?_
            show OwnGo p e below (T477.setTop (mkF m 118 #[.val (.int p1), .val (.int p2), .val (.int p3), .val (.int p4), .val (.int p5), .val (.int (1 : Int32)), .val (.int (1 : Int32)), .val .null, .val (.ref s0), .val (.ref s1), .val (.ref s2), .val (.ref b477), .unset] [(.ref b477)])) _
            refine own_back (fun t k => XS.iconst X477.here hx rfl (hb hby at_118) k) ?_
            show OwnGo p e below (T477.setTop (mkF m 119 #[.val (.int p1), .val (.int p2), .val (.int p3), .val (.int p4), .val (.int p5), .val (.int (1 : Int32)), .val (.int (1 : Int32)), .val .null, .val (.ref s0), .val (.ref s1), .val (.ref s2), .val (.ref b477), .unset] [(.int (0 : Int32)), (.ref b477)])) _
            refine own_back (fun t k => XS.aload X477.here hx rfl (hb hby at_119) rfl rfl k) ?_
            show OwnGo p e below (T477.setTop (mkF m 121 #[.val (.int p1), .val (.int p2), .val (.int p3), .val (.int p4), .val (.int p5), .val (.int (1 : Int32)), .val (.int (1 : Int32)), .val .null, .val (.ref s0), .val (.ref s1), .val (.ref s2), .val (.ref b477), .unset] [(.ref s0), (.int (0 : Int32)), (.ref b477)])) _
            obtain ⟨c490, A490, q490, S490, M490, H490, U490⟩ := id V488
            obtain ⟨T491, h491, X491, e491, W491, st491⟩ := stR X477 hx hZj462 e477 A490 (j := (0 : Int32)) (inb_of S490 ⟨by decide, by decide⟩) rfl (Sto.ofV A490 q490 O477 (Ins.self f485.exa)) (g := (mkF m 121 #[.val (.int p1), .val (.int p2), .val (.int p3), .val (.int p4), .val (.int p5), .val (.int (1 : Int32)), .val (.int (1 : Int32)), .val .null, .val (.ref s0), .val (.ref s1), .val (.ref s2), .val (.ref b477), .unset] [(.ref s0), (.int (0 : Int32)), (.ref b477)])) rfl rfl (hb hby at_121)
            have O492 := O480.wr W491 ge478
            have KP493 := KP481.wr W491 (Or.inr sz479)
            have Zs494 := Nat.le_trans Zs482 (Keep.of_wr W491).1
            have CR495 := CR483.trans (CHr.wr W491 sf489 CR483.1)
            have hk496 := Nat.le_trans hk484 (Keep.of_wr W491).1
            have f497 := (OwnStr.wrA W491 V488 (by decide) (hw _ (List.mem_of_getElem? (i := 5) rfl)) f485)
            have f498 := (OwnStr.wrA W491 V488 (by decide) (hw _ (List.mem_of_getElem? (i := 5) rfl)) f486)
            have f499 := (OwnStr.wrA W491 V488 (by decide) (hw _ (List.mem_of_getElem? (i := 5) rfl)) f487)
            have f500 := (Safe.wr W491 sf489 CR483.1 sf489)
            have V501 : Arv Z h491 b477 k477 (.object "java/lang/String") (1 : Int32) [(.ref s0)] .null := Arv.set A490 q490 S490 M490 H490 U490 rfl W491 0 rfl (Nat.le_of_ble_eq_true rfl)
            have N502 := Fr.snoc X491 Nj462 ge478
            refine own_back st491 ?_
            show OwnGo p e below (T491.setTop (mkF m 122 #[.val (.int p1), .val (.int p2), .val (.int p3), .val (.int p4), .val (.int p5), .val (.int (1 : Int32)), .val (.int (1 : Int32)), .val .null, .val (.ref s0), .val (.ref s1), .val (.ref s2), .val (.ref b477), .unset] [])) _
            refine own_back (fun t k => XS.iload X491.here hx rfl (hb hby at_122) rfl k) ?_
            show OwnGo p e below (T491.setTop (mkF m 124 #[.val (.int p1), .val (.int p2), .val (.int p3), .val (.int p4), .val (.int p5), .val (.int (1 : Int32)), .val (.int (1 : Int32)), .val .null, .val (.ref s0), .val (.ref s1), .val (.ref s2), .val (.ref b477), .unset] [(.int (1 : Int32))])) _
            refine own_back (fun t k => XS.iconst X491.here hx rfl (hb hby at_124) k) ?_
            show OwnGo p e below (T491.setTop (mkF m 125 #[.val (.int p1), .val (.int p2), .val (.int p3), .val (.int p4), .val (.int p5), .val (.int (1 : Int32)), .val (.int (1 : Int32)), .val .null, .val (.ref s0), .val (.ref s1), .val (.ref s2), .val (.ref b477), .unset] [(.int (1 : Int32)), (.int (1 : Int32))])) _
            refine own_back (fun t k => XS.icmpYes X491.here hx rfl (pc0 := 125) (pc' := 134) rfl (hb hby at_125) rfl (Jvm.Free.XT.ii_le_t (by decide)) (by decide) (by decide) k) ?_
            show OwnGo p e below (T491.setTop (mkF m 134 #[.val (.int p1), .val (.int p2), .val (.int p3), .val (.int p4), .val (.int p5), .val (.int (1 : Int32)), .val (.int (1 : Int32)), .val .null, .val (.ref s0), .val (.ref s1), .val (.ref s2), .val (.ref b477), .unset] [])) _
            refine own_back (fun t k => XS.iload X491.here hx rfl (hb hby at_134) rfl k) ?_
            show OwnGo p e below (T491.setTop (mkF m 136 #[.val (.int p1), .val (.int p2), .val (.int p3), .val (.int p4), .val (.int p5), .val (.int (1 : Int32)), .val (.int (1 : Int32)), .val .null, .val (.ref s0), .val (.ref s1), .val (.ref s2), .val (.ref b477), .unset] [(.int (1 : Int32))])) _
            refine own_back (fun t k => XS.iconst X491.here hx rfl (hb hby at_136) k) ?_
            show OwnGo p e below (T491.setTop (mkF m 137 #[.val (.int p1), .val (.int p2), .val (.int p3), .val (.int p4), .val (.int p5), .val (.int (1 : Int32)), .val (.int (1 : Int32)), .val .null, .val (.ref s0), .val (.ref s1), .val (.ref s2), .val (.ref b477), .unset] [(.int (2 : Int32)), (.int (1 : Int32))])) _
            refine own_back (fun t k => XS.icmpYes X491.here hx rfl (pc0 := 137) (pc' := 146) rfl (hb hby at_137) rfl (Jvm.Free.XT.ii_le_t (by decide)) (by decide) (by decide) k) ?_
            show OwnGo p e below (T491.setTop (mkF m 146 #[.val (.int p1), .val (.int p2), .val (.int p3), .val (.int p4), .val (.int p5), .val (.int (1 : Int32)), .val (.int (1 : Int32)), .val .null, .val (.ref s0), .val (.ref s1), .val (.ref s2), .val (.ref b477), .unset] [])) _
            refine own_back (fun t k => XS.iconst X491.here hx rfl (hb hby at_146) k) ?_
            show OwnGo p e below (T491.setTop (mkF m 147 #[.val (.int p1), .val (.int p2), .val (.int p3), .val (.int p4), .val (.int p5), .val (.int (1 : Int32)), .val (.int (1 : Int32)), .val .null, .val (.ref s0), .val (.ref s1), .val (.ref s2), .val (.ref b477), .unset] [(.int (0 : Int32))])) _
            refine own_back (fun t k => XS.istore X491.here hx rfl (hb hby at_147) rfl (l' := #[.val (.int p1), .val (.int p2), .val (.int p3), .val (.int p4), .val (.int p5), .val (.int (1 : Int32)), .val (.int (1 : Int32)), .val .null, .val (.ref s0), .val (.ref s1), .val (.ref s2), .val (.ref b477), .val (.int (0 : Int32))]) rfl k) ?_
            show OwnGo p e below (T491.setTop (mkF m 149 #[.val (.int p1), .val (.int p2), .val (.int p3), .val (.int p4), .val (.int p5), .val (.int (1 : Int32)), .val (.int (1 : Int32)), .val .null, .val (.ref s0), .val (.ref s1), .val (.ref s2), .val (.ref b477), .val (.int (0 : Int32))] [])) _
            refine own_back (fun t k => XS.iload X491.here hx rfl (hb hby at_149) rfl k) ?_
            show OwnGo p e below (T491.setTop (mkF m 151 #[.val (.int p1), .val (.int p2), .val (.int p3), .val (.int p4), .val (.int p5), .val (.int (1 : Int32)), .val (.int (1 : Int32)), .val .null, .val (.ref s0), .val (.ref s1), .val (.ref s2), .val (.ref b477), .val (.int (0 : Int32))] [(.int (1 : Int32))])) _
            refine own_back (fun t k => XS.ifYes X491.here hx rfl (pc0 := 151) (pc' := 208) rfl (hb hby at_151) rfl (Jvm.Free.XT.i0_ne_t (by decide)) (by decide) (by decide) k) ?_
            show OwnGo p e below (T491.setTop (mkF m 208 #[.val (.int p1), .val (.int p2), .val (.int p3), .val (.int p4), .val (.int p5), .val (.int (1 : Int32)), .val (.int (1 : Int32)), .val .null, .val (.ref s0), .val (.ref s1), .val (.ref s2), .val (.ref b477), .val (.int (0 : Int32))] [])) _
            refine own_back (fun t k => XS.aload X491.here hx rfl (hb hby at_208) rfl rfl k) ?_
            show OwnGo p e below (T491.setTop (mkF m 210 #[.val (.int p1), .val (.int p2), .val (.int p3), .val (.int p4), .val (.int p5), .val (.int (1 : Int32)), .val (.int (1 : Int32)), .val .null, .val (.ref s0), .val (.ref s1), .val (.ref s2), .val (.ref b477), .val (.int (0 : Int32))] [.null])) _
            refine own_back (fun t k => XS.aload X491.here hx rfl (hb hby at_210) rfl rfl k) ?_
            show OwnGo p e below (T491.setTop (mkF m 212 #[.val (.int p1), .val (.int p2), .val (.int p3), .val (.int p4), .val (.int p5), .val (.int (1 : Int32)), .val (.int (1 : Int32)), .val .null, .val (.ref s0), .val (.ref s1), .val (.ref s2), .val (.ref b477), .val (.int (0 : Int32))] [(.ref b477), .null])) _
            obtain ⟨_, _, ⟨T503, L503, k503, n503⟩, -, X503, ⟨Lc503, hQ503, l503, y503, z503⟩, st503⟩ := Jvm.LawKit.callS X491 hx (y := (⟨"com/example/lease/lease/cli/OptionValues", "oneOf", "(Ljava/lang/String;[Ljava/lang/String;)Z"⟩ : MethodName)) hownj462 (mvT hZj462 (hw _ (List.mem_of_getElem? (i := 35) rfl))) (mvT hZj462 (hw _ (List.mem_of_getElem? (i := 36) rfl))) (mvT hZj462 (hw _ (List.mem_of_getElem? (i := 37) rfl))) (mvT hZj462 (hw _ (List.mem_of_getElem? (i := 38) rfl))) (by decide) (own_backN (W := 0) (rm_oo1n l Z a0 hw [] b477 k477 s0 u0 h491 n0 Zs494 V501 f497) hZj462 (hw _ (List.mem_of_getElem? (i := 38) rfl)) (hw _ (List.mem_of_getElem? (i := 37) rfl)) (by decide) (by decide)) (g := (mkF m 212 #[.val (.int p1), .val (.int p2), .val (.int p3), .val (.int p4), .val (.int p5), .val (.int (1 : Int32)), .val (.int (1 : Int32)), .val .null, .val (.ref s0), .val (.ref s1), .val (.ref s2), .val (.ref b477), .val (.int (0 : Int32))] [(.ref b477), .null])) rfl (by rw [hml]; rfl) (argsL := [.null, (.ref b477)]) (rest := []) (lenOf lw_pd0 rfl) rfl (by show 2 * 0 + _ ≤ _; exact Nat.le_of_eq rfl) (hb hby at_212) (fun _ _ => ⟨rfl, e491, Nat.le_of_ble_eq_true rfl, Nat.le_of_ble_eq_true rfl⟩)
            dsimp only [Pt.U, Pt.locs, Pt.cells, Pt.slots] at X503 l503 y503 z503 st503 hQ503
            subst l503 y503 z503
            obtain ⟨rfl, N503q, hh503⟩ := hQ503
            refine own_back st503 ?_
            have N503 := Fr.app N502 N503q
            show OwnGo p e below (T503.setTop (mkF m 215 #[.val (.int p1), .val (.int p2), .val (.int p3), .val (.int p4), .val (.int p5), .val (.int (1 : Int32)), .val (.int (1 : Int32)), .val .null, .val (.ref s0), .val (.ref s1), .val (.ref s2), .val (.ref b477), .val (.int (0 : Int32))] [(.int (0 : Int32))])) _
            refine own_back (fun t k => XS.iload X503.here hx rfl (hb hby at_215) rfl k) ?_
            show OwnGo p e below (T503.setTop (mkF m 217 #[.val (.int p1), .val (.int p2), .val (.int p3), .val (.int p4), .val (.int p5), .val (.int (1 : Int32)), .val (.int (1 : Int32)), .val .null, .val (.ref s0), .val (.ref s1), .val (.ref s2), .val (.ref b477), .val (.int (0 : Int32))] [(.int (0 : Int32)), (.int (0 : Int32))])) _
            refine own_back (fun t k => XS.icmpNo X503.here hx rfl (hb hby at_217) rfl (Jvm.Free.XT.ii_ne_f (by decide)) k) ?_
            show OwnGo p e below (T503.setTop (mkF m 220 #[.val (.int p1), .val (.int p2), .val (.int p3), .val (.int p4), .val (.int p5), .val (.int (1 : Int32)), .val (.int (1 : Int32)), .val .null, .val (.ref s0), .val (.ref s1), .val (.ref s2), .val (.ref b477), .val (.int (0 : Int32))] [])) _
            refine own_back (fun t k => XS.iconst X503.here hx rfl (hb hby at_220) k) ?_
            show OwnGo p e below (T503.setTop (mkF m 221 #[.val (.int p1), .val (.int p2), .val (.int p3), .val (.int p4), .val (.int p5), .val (.int (1 : Int32)), .val (.int (1 : Int32)), .val .null, .val (.ref s0), .val (.ref s1), .val (.ref s2), .val (.ref b477), .val (.int (0 : Int32))] [(.int (1 : Int32))])) _
            refine own_back (fun t k => XS.goto X503.here hx rfl (pc0 := 221) (pc' := 225) rfl (hb hby at_221) (by decide) (by decide) k) ?_
            show OwnGo p e below (T503.setTop (mkF m 225 #[.val (.int p1), .val (.int p2), .val (.int p3), .val (.int p4), .val (.int p5), .val (.int (1 : Int32)), .val (.int (1 : Int32)), .val .null, .val (.ref s0), .val (.ref s1), .val (.ref s2), .val (.ref b477), .val (.int (0 : Int32))] [(.int (1 : Int32))])) _
            refine own_retNW X503 hx Bd.notSynchronized (t := .boolean) (z := (1 : Int32)) Bd.returns (by simp) rfl hSj462 hk496 hZj462 hEL (hh ▸ CR495) (hb hby at_225) hh503 (Nat.le_of_ble_eq_true rfl) (Nat.le_of_ble_eq_true rfl) ?_
            exact ⟨rfl, N503⟩
          · rw [hn]
            show OwnGo p e below (Tj462.setTop (mkF m 104 #[.val (.int p1), .val (.int p2), .val (.int p3), .val (.int p4), .val (.int p5), .val (.int (2 : Int32)), .val (.int (1 : Int32)), .val .null, .val (.ref s0), .val (.ref s1), .val (.ref s2), .unset, .unset] [])) _
            refine own_back (fun t k => XS.iload Xj462.here hx rfl (hb hby at_104) rfl k) ?_
            show OwnGo p e below (Tj462.setTop (mkF m 106 #[.val (.int p1), .val (.int p2), .val (.int p3), .val (.int p4), .val (.int p5), .val (.int (2 : Int32)), .val (.int (1 : Int32)), .val .null, .val (.ref s0), .val (.ref s1), .val (.ref s2), .unset, .unset] [(.int (2 : Int32))])) _
            obtain ⟨T504, h504, k504, X504, e504, E504, A504, O504, st504⟩ := newR Xj462 hx hZj462 hownj462 (hw _ (List.mem_of_getElem? (i := 4) rfl)) (hw _ (List.mem_of_getElem? (i := 34) rfl)) ej462 (g := (mkF m 106 #[.val (.int p1), .val (.int p2), .val (.int p3), .val (.int p4), .val (.int p5), .val (.int (2 : Int32)), .val (.int (1 : Int32)), .val .null, .val (.ref s0), .val (.ref s1), .val (.ref s2), .unset, .unset] [(.int (2 : Int32))])) rfl (hb hby at_106) rfl (by decide) (cap := 2) (by decide) (by decide) (Nat.le_of_ble_eq_true rfl) (Nat.le_of_ble_eq_true rfl)
            obtain ⟨b504, g504⟩ : ∃ z, z = hj462.size := ⟨_, rfl⟩
            have ge505 : n0 ≤ b504 := Nat.le_trans Zj462 (Nat.le_of_eq g504.symm)
            have sz506 : h0.size ≤ b504 := Nat.le_trans KPj462.1 (Nat.le_of_eq g504.symm)
            rw [← g504] at A504 st504
            have O507 := Oj462.ext E504
            have KP508 := KPj462.ext E504
            have Zs509 := Nat.le_trans Zj462 E504.1
            have CR510 := CRj462.trans (CHr.ext E504 CRj462.1)
            have hk511 := Nat.le_trans hkj462 E504.1
            have f512 := hs462_0.ext E504
            have f513 := hs462_1.ext E504
            have f514 := hs462_2.ext E504
            have V515 : Arv Z h504 b504 k504 (.object "java/lang/String") (2 : Int32) [.null, .null] .null := (Arv.new A504 (by decide)).pad (pad_rep [] .null 2)
            have sf516 := Safe.ext E504 CRj462.1 (Safe.new (Nat.le_of_eq g504.symm))
            refine own_back st504 ?_
            show OwnGo p e below (T504.setTop (mkF m 109 #[.val (.int p1), .val (.int p2), .val (.int p3), .val (.int p4), .val (.int p5), .val (.int (2 : Int32)), .val (.int (1 : Int32)), .val .null, .val (.ref s0), .val (.ref s1), .val (.ref s2), .unset, .unset] [(.ref b504)])) _
            refine own_back (fun t k => XS.astore X504.here hx rfl (hb hby at_109) rfl rfl (l' := #[.val (.int p1), .val (.int p2), .val (.int p3), .val (.int p4), .val (.int p5), .val (.int (2 : Int32)), .val (.int (1 : Int32)), .val .null, .val (.ref s0), .val (.ref s1), .val (.ref s2), .val (.ref b504), .unset]) rfl k) ?_
            show OwnGo p e below (T504.setTop (mkF m 111 #[.val (.int p1), .val (.int p2), .val (.int p3), .val (.int p4), .val (.int p5), .val (.int (2 : Int32)), .val (.int (1 : Int32)), .val .null, .val (.ref s0), .val (.ref s1), .val (.ref s2), .val (.ref b504), .unset] [])) _
            refine own_back (fun t k => XS.iload X504.here hx rfl (hb hby at_111) rfl k) ?_
            show OwnGo p e below (T504.setTop (mkF m 113 #[.val (.int p1), .val (.int p2), .val (.int p3), .val (.int p4), .val (.int p5), .val (.int (2 : Int32)), .val (.int (1 : Int32)), .val .null, .val (.ref s0), .val (.ref s1), .val (.ref s2), .val (.ref b504), .unset] [(.int (2 : Int32))])) _
            refine own_back (fun t k => XS.ifNo X504.here hx rfl (hb hby at_113) rfl (Jvm.Free.XT.i0_le_f (by decide)) k) ?_
            show OwnGo p e below (T504.setTop (mkF m 116 #[.val (.int p1), .val (.int p2), .val (.int p3), .val (.int p4), .val (.int p5), .val (.int (2 : Int32)), .val (.int (1 : Int32)), .val .null, .val (.ref s0), .val (.ref s1), .val (.ref s2), .val (.ref b504), .unset] [])) _
            refine own_back (fun t k => XS.aload X504.here hx rfl (hb hby at_116) rfl rfl k) ?_
            show OwnGo p e below (T504.setTop (mkF m 118 #[.val (.int p1), .val (.int p2), .val (.int p3), .val (.int p4), .val (.int p5), .val (.int (2 : Int32)), .val (.int (1 : Int32)), .val .null, .val (.ref s0), .val (.ref s1), .val (.ref s2), .val (.ref b504), .unset] [(.ref b504)])) _
            refine own_back (fun t k => XS.iconst X504.here hx rfl (hb hby at_118) k) ?_
            show OwnGo p e below (T504.setTop (mkF m 119 #[.val (.int p1), .val (.int p2), .val (.int p3), .val (.int p4), .val (.int p5), .val (.int (2 : Int32)), .val (.int (1 : Int32)), .val .null, .val (.ref s0), .val (.ref s1), .val (.ref s2), .val (.ref b504), .unset] [(.int (0 : Int32)), (.ref b504)])) _
            refine own_back (fun t k => XS.aload X504.here hx rfl (hb hby at_119) rfl rfl k) ?_
            show OwnGo p e below (T504.setTop (mkF m 121 #[.val (.int p1), .val (.int p2), .val (.int p3), .val (.int p4), .val (.int p5), .val (.int (2 : Int32)), .val (.int (1 : Int32)), .val .null, .val (.ref s0), .val (.ref s1), .val (.ref s2), .val (.ref b504), .unset] [(.ref s0), (.int (0 : Int32)), (.ref b504)])) _
            obtain ⟨c517, A517, q517, S517, M517, H517, U517⟩ := id V515
            obtain ⟨T518, h518, X518, e518, W518, st518⟩ := stR X504 hx hZj462 e504 A517 (j := (0 : Int32)) (inb_of S517 ⟨by decide, by decide⟩) rfl (Sto.ofV A517 q517 O504 (Ins.self f512.exa)) (g := (mkF m 121 #[.val (.int p1), .val (.int p2), .val (.int p3), .val (.int p4), .val (.int p5), .val (.int (2 : Int32)), .val (.int (1 : Int32)), .val .null, .val (.ref s0), .val (.ref s1), .val (.ref s2), .val (.ref b504), .unset] [(.ref s0), (.int (0 : Int32)), (.ref b504)])) rfl rfl (hb hby at_121)
            have O519 := O507.wr W518 ge505
            have KP520 := KP508.wr W518 (Or.inr sz506)
            have Zs521 := Nat.le_trans Zs509 (Keep.of_wr W518).1
            have CR522 := CR510.trans (CHr.wr W518 sf516 CR510.1)
            have hk523 := Nat.le_trans hk511 (Keep.of_wr W518).1
            have f524 := (OwnStr.wrA W518 V515 (by decide) (hw _ (List.mem_of_getElem? (i := 5) rfl)) f512)
            have f525 := (OwnStr.wrA W518 V515 (by decide) (hw _ (List.mem_of_getElem? (i := 5) rfl)) f513)
            have f526 := (OwnStr.wrA W518 V515 (by decide) (hw _ (List.mem_of_getElem? (i := 5) rfl)) f514)
            have f527 := (Safe.wr W518 sf516 CR510.1 sf516)
            have V528 : Arv Z h518 b504 k504 (.object "java/lang/String") (2 : Int32) [(.ref s0), .null] .null := Arv.set A517 q517 S517 M517 H517 U517 rfl W518 0 rfl (Nat.le_of_ble_eq_true rfl)
            have N529 := Fr.snoc X518 Nj462 ge505
            refine own_back st518 ?_
            show OwnGo p e below (T518.setTop (mkF m 122 #[.val (.int p1), .val (.int p2), .val (.int p3), .val (.int p4), .val (.int p5), .val (.int (2 : Int32)), .val (.int (1 : Int32)), .val .null, .val (.ref s0), .val (.ref s1), .val (.ref s2), .val (.ref b504), .unset] [])) _
            refine own_back (fun t k => XS.iload X518.here hx rfl (hb hby at_122) rfl k) ?_
            show OwnGo p e below (T518.setTop (mkF m 124 #[.val (.int p1), .val (.int p2), .val (.int p3), .val (.int p4), .val (.int p5), .val (.int (2 : Int32)), .val (.int (1 : Int32)), .val .null, .val (.ref s0), .val (.ref s1), .val (.ref s2), .val (.ref b504), .unset] [(.int (2 : Int32))])) _
            refine own_back (fun t k => XS.iconst X518.here hx rfl (hb hby at_124) k) ?_
            show OwnGo p e below (T518.setTop (mkF m 125 #[.val (.int p1), .val (.int p2), .val (.int p3), .val (.int p4), .val (.int p5), .val (.int (2 : Int32)), .val (.int (1 : Int32)), .val .null, .val (.ref s0), .val (.ref s1), .val (.ref s2), .val (.ref b504), .unset] [(.int (1 : Int32)), (.int (2 : Int32))])) _
            refine own_back (fun t k => XS.icmpNo X518.here hx rfl (hb hby at_125) rfl (Jvm.Free.XT.ii_le_f (by decide)) k) ?_
            show OwnGo p e below (T518.setTop (mkF m 128 #[.val (.int p1), .val (.int p2), .val (.int p3), .val (.int p4), .val (.int p5), .val (.int (2 : Int32)), .val (.int (1 : Int32)), .val .null, .val (.ref s0), .val (.ref s1), .val (.ref s2), .val (.ref b504), .unset] [])) _
            refine own_back (fun t k => XS.aload X518.here hx rfl (hb hby at_128) rfl rfl k) ?_
            show OwnGo p e below (T518.setTop (mkF m 130 #[.val (.int p1), .val (.int p2), .val (.int p3), .val (.int p4), .val (.int p5), .val (.int (2 : Int32)), .val (.int (1 : Int32)), .val .null, .val (.ref s0), .val (.ref s1), .val (.ref s2), .val (.ref b504), .unset] [(.ref b504)])) _
            refine own_back (fun t k => XS.iconst X518.here hx rfl (hb hby at_130) k) ?_
            show OwnGo p e below (T518.setTop (mkF m 131 #[.val (.int p1), .val (.int p2), .val (.int p3), .val (.int p4), .val (.int p5), .val (.int (2 : Int32)), .val (.int (1 : Int32)), .val .null, .val (.ref s0), .val (.ref s1), .val (.ref s2), .val (.ref b504), .unset] [(.int (1 : Int32)), (.ref b504)])) _
            refine own_back (fun t k => XS.aload X518.here hx rfl (hb hby at_131) rfl rfl k) ?_
            show OwnGo p e below (T518.setTop (mkF m 133 #[.val (.int p1), .val (.int p2), .val (.int p3), .val (.int p4), .val (.int p5), .val (.int (2 : Int32)), .val (.int (1 : Int32)), .val .null, .val (.ref s0), .val (.ref s1), .val (.ref s2), .val (.ref b504), .unset] [(.ref s1), (.int (1 : Int32)), (.ref b504)])) _
            obtain ⟨c530, A530, q530, S530, M530, H530, U530⟩ := id V528
            obtain ⟨T531, h531, X531, e531, W531, st531⟩ := stR X518 hx hZj462 e518 A530 (j := (1 : Int32)) (inb_of S530 ⟨by decide, by decide⟩) rfl (Sto.ofV A530 q530 O504 (Ins.self f525.exa)) (g := (mkF m 133 #[.val (.int p1), .val (.int p2), .val (.int p3), .val (.int p4), .val (.int p5), .val (.int (2 : Int32)), .val (.int (1 : Int32)), .val .null, .val (.ref s0), .val (.ref s1), .val (.ref s2), .val (.ref b504), .unset] [(.ref s1), (.int (1 : Int32)), (.ref b504)])) rfl rfl (hb hby at_133)
            have O532 := O519.wr W531 ge505
            have KP533 := KP520.wr W531 (Or.inr sz506)
            have Zs534 := Nat.le_trans Zs521 (Keep.of_wr W531).1
            have CR535 := CR522.trans (CHr.wr W531 f527 CR522.1)
            have hk536 := Nat.le_trans hk523 (Keep.of_wr W531).1
            have f537 := (OwnStr.wrA W531 V528 (by decide) (hw _ (List.mem_of_getElem? (i := 5) rfl)) f524)
            have f538 := (OwnStr.wrA W531 V528 (by decide) (hw _ (List.mem_of_getElem? (i := 5) rfl)) f525)
            have f539 := (OwnStr.wrA W531 V528 (by decide) (hw _ (List.mem_of_getElem? (i := 5) rfl)) f526)
            have f540 := (Safe.wr W531 f527 CR522.1 f527)
            have V541 : Arv Z h531 b504 k504 (.object "java/lang/String") (2 : Int32) [(.ref s0), (.ref s1)] .null := Arv.set A530 q530 S530 M530 H530 U530 rfl W531 1 rfl (Nat.le_of_ble_eq_true rfl)
            have N542 := Fr.snoc X531 N529 ge505
            refine own_back st531 ?_
            show OwnGo p e below (T531.setTop (mkF m 134 #[.val (.int p1), .val (.int p2), .val (.int p3), .val (.int p4), .val (.int p5), .val (.int (2 : Int32)), .val (.int (1 : Int32)), .val .null, .val (.ref s0), .val (.ref s1), .val (.ref s2), .val (.ref b504), .unset] [])) _
            refine own_back (fun t k => XS.iload X531.here hx rfl (hb hby at_134) rfl k) ?_
            show OwnGo p e below (T531.setTop (mkF m 136 #[.val (.int p1), .val (.int p2), .val (.int p3), .val (.int p4), .val (.int p5), .val (.int (2 : Int32)), .val (.int (1 : Int32)), .val .null, .val (.ref s0), .val (.ref s1), .val (.ref s2), .val (.ref b504), .unset] [(.int (2 : Int32))])) _
            refine own_back (fun t k => XS.iconst X531.here hx rfl (hb hby at_136) k) ?_
            show OwnGo p e below (T531.setTop (mkF m 137 #[.val (.int p1), .val (.int p2), .val (.int p3), .val (.int p4), .val (.int p5), .val (.int (2 : Int32)), .val (.int (1 : Int32)), .val .null, .val (.ref s0), .val (.ref s1), .val (.ref s2), .val (.ref b504), .unset] [(.int (2 : Int32)), (.int (2 : Int32))])) _
            refine own_back (fun t k => XS.icmpYes X531.here hx rfl (pc0 := 137) (pc' := 146) rfl (hb hby at_137) rfl (Jvm.Free.XT.ii_le_t (by decide)) (by decide) (by decide) k) ?_
            show OwnGo p e below (T531.setTop (mkF m 146 #[.val (.int p1), .val (.int p2), .val (.int p3), .val (.int p4), .val (.int p5), .val (.int (2 : Int32)), .val (.int (1 : Int32)), .val .null, .val (.ref s0), .val (.ref s1), .val (.ref s2), .val (.ref b504), .unset] [])) _
            refine own_back (fun t k => XS.iconst X531.here hx rfl (hb hby at_146) k) ?_
            show OwnGo p e below (T531.setTop (mkF m 147 #[.val (.int p1), .val (.int p2), .val (.int p3), .val (.int p4), .val (.int p5), .val (.int (2 : Int32)), .val (.int (1 : Int32)), .val .null, .val (.ref s0), .val (.ref s1), .val (.ref s2), .val (.ref b504), .unset] [(.int (0 : Int32))])) _
            refine own_back (fun t k => XS.istore X531.here hx rfl (hb hby at_147) rfl (l' := #[.val (.int p1), .val (.int p2), .val (.int p3), .val (.int p4), .val (.int p5), .val (.int (2 : Int32)), .val (.int (1 : Int32)), .val .null, .val (.ref s0), .val (.ref s1), .val (.ref s2), .val (.ref b504), .val (.int (0 : Int32))]) rfl k) ?_
            show OwnGo p e below (T531.setTop (mkF m 149 #[.val (.int p1), .val (.int p2), .val (.int p3), .val (.int p4), .val (.int p5), .val (.int (2 : Int32)), .val (.int (1 : Int32)), .val .null, .val (.ref s0), .val (.ref s1), .val (.ref s2), .val (.ref b504), .val (.int (0 : Int32))] [])) _
            refine own_back (fun t k => XS.iload X531.here hx rfl (hb hby at_149) rfl k) ?_
            show OwnGo p e below (T531.setTop (mkF m 151 #[.val (.int p1), .val (.int p2), .val (.int p3), .val (.int p4), .val (.int p5), .val (.int (2 : Int32)), .val (.int (1 : Int32)), .val .null, .val (.ref s0), .val (.ref s1), .val (.ref s2), .val (.ref b504), .val (.int (0 : Int32))] [(.int (1 : Int32))])) _
            refine own_back (fun t k => XS.ifYes X531.here hx rfl (pc0 := 151) (pc' := 208) rfl (hb hby at_151) rfl (Jvm.Free.XT.i0_ne_t (by decide)) (by decide) (by decide) k) ?_
            show OwnGo p e below (T531.setTop (mkF m 208 #[.val (.int p1), .val (.int p2), .val (.int p3), .val (.int p4), .val (.int p5), .val (.int (2 : Int32)), .val (.int (1 : Int32)), .val .null, .val (.ref s0), .val (.ref s1), .val (.ref s2), .val (.ref b504), .val (.int (0 : Int32))] [])) _
            refine own_back (fun t k => XS.aload X531.here hx rfl (hb hby at_208) rfl rfl k) ?_
            show OwnGo p e below (T531.setTop (mkF m 210 #[.val (.int p1), .val (.int p2), .val (.int p3), .val (.int p4), .val (.int p5), .val (.int (2 : Int32)), .val (.int (1 : Int32)), .val .null, .val (.ref s0), .val (.ref s1), .val (.ref s2), .val (.ref b504), .val (.int (0 : Int32))] [.null])) _
            refine own_back (fun t k => XS.aload X531.here hx rfl (hb hby at_210) rfl rfl k) ?_
            show OwnGo p e below (T531.setTop (mkF m 212 #[.val (.int p1), .val (.int p2), .val (.int p3), .val (.int p4), .val (.int p5), .val (.int (2 : Int32)), .val (.int (1 : Int32)), .val .null, .val (.ref s0), .val (.ref s1), .val (.ref s2), .val (.ref b504), .val (.int (0 : Int32))] [(.ref b504), .null])) _
            obtain ⟨_, _, ⟨T543, L543, k543, n543⟩, -, X543, ⟨Lc543, hQ543, l543, y543, z543⟩, st543⟩ := Jvm.LawKit.callS X531 hx (y := (⟨"com/example/lease/lease/cli/OptionValues", "oneOf", "(Ljava/lang/String;[Ljava/lang/String;)Z"⟩ : MethodName)) hownj462 (mvT hZj462 (hw _ (List.mem_of_getElem? (i := 35) rfl))) (mvT hZj462 (hw _ (List.mem_of_getElem? (i := 36) rfl))) (mvT hZj462 (hw _ (List.mem_of_getElem? (i := 37) rfl))) (mvT hZj462 (hw _ (List.mem_of_getElem? (i := 38) rfl))) (by decide) (own_backN (W := 0) (rm_oo2n l Z a0 hw [] b504 k504 s0 s1 u0 u1 h531 n0 Zs534 V541 f537 f538) hZj462 (hw _ (List.mem_of_getElem? (i := 38) rfl)) (hw _ (List.mem_of_getElem? (i := 37) rfl)) (by decide) (by decide)) (g := (mkF m 212 #[.val (.int p1), .val (.int p2), .val (.int p3), .val (.int p4), .val (.int p5), .val (.int (2 : Int32)), .val (.int (1 : Int32)), .val .null, .val (.ref s0), .val (.ref s1), .val (.ref s2), .val (.ref b504), .val (.int (0 : Int32))] [(.ref b504), .null])) rfl (by rw [hml]; rfl) (argsL := [.null, (.ref b504)]) (rest := []) (lenOf lw_pd0 rfl) rfl (by show 2 * 0 + _ ≤ _; exact Nat.le_of_eq rfl) (hb hby at_212) (fun _ _ => ⟨rfl, e531, Nat.le_of_ble_eq_true rfl, Nat.le_of_ble_eq_true rfl⟩)
            dsimp only [Pt.U, Pt.locs, Pt.cells, Pt.slots] at X543 l543 y543 z543 st543 hQ543
            subst l543 y543 z543
            obtain ⟨rfl, N543q, hh543⟩ := hQ543
            refine own_back st543 ?_
            have N543 := Fr.app N542 N543q
            show OwnGo p e below (T543.setTop (mkF m 215 #[.val (.int p1), .val (.int p2), .val (.int p3), .val (.int p4), .val (.int p5), .val (.int (2 : Int32)), .val (.int (1 : Int32)), .val .null, .val (.ref s0), .val (.ref s1), .val (.ref s2), .val (.ref b504), .val (.int (0 : Int32))] [(.int (0 : Int32))])) _
            refine own_back (fun t k => XS.iload X543.here hx rfl (hb hby at_215) rfl k) ?_
            show OwnGo p e below (T543.setTop (mkF m 217 #[.val (.int p1), .val (.int p2), .val (.int p3), .val (.int p4), .val (.int p5), .val (.int (2 : Int32)), .val (.int (1 : Int32)), .val .null, .val (.ref s0), .val (.ref s1), .val (.ref s2), .val (.ref b504), .val (.int (0 : Int32))] [(.int (0 : Int32)), (.int (0 : Int32))])) _
            refine own_back (fun t k => XS.icmpNo X543.here hx rfl (hb hby at_217) rfl (Jvm.Free.XT.ii_ne_f (by decide)) k) ?_
            show OwnGo p e below (T543.setTop (mkF m 220 #[.val (.int p1), .val (.int p2), .val (.int p3), .val (.int p4), .val (.int p5), .val (.int (2 : Int32)), .val (.int (1 : Int32)), .val .null, .val (.ref s0), .val (.ref s1), .val (.ref s2), .val (.ref b504), .val (.int (0 : Int32))] [])) _
            refine own_back (fun t k => XS.iconst X543.here hx rfl (hb hby at_220) k) ?_
            show OwnGo p e below (T543.setTop (mkF m 221 #[.val (.int p1), .val (.int p2), .val (.int p3), .val (.int p4), .val (.int p5), .val (.int (2 : Int32)), .val (.int (1 : Int32)), .val .null, .val (.ref s0), .val (.ref s1), .val (.ref s2), .val (.ref b504), .val (.int (0 : Int32))] [(.int (1 : Int32))])) _
            refine own_back (fun t k => XS.goto X543.here hx rfl (pc0 := 221) (pc' := 225) rfl (hb hby at_221) (by decide) (by decide) k) ?_
            show OwnGo p e below (T543.setTop (mkF m 225 #[.val (.int p1), .val (.int p2), .val (.int p3), .val (.int p4), .val (.int p5), .val (.int (2 : Int32)), .val (.int (1 : Int32)), .val .null, .val (.ref s0), .val (.ref s1), .val (.ref s2), .val (.ref b504), .val (.int (0 : Int32))] [(.int (1 : Int32))])) _
            refine own_retNW X543 hx Bd.notSynchronized (t := .boolean) (z := (1 : Int32)) Bd.returns (by simp) rfl hSj462 hk536 hZj462 hEL (hh ▸ CR535) (hb hby at_225) hh543 (Nat.le_of_ble_eq_true rfl) (Nat.le_of_ble_eq_true rfl) ?_
            exact ⟨rfl, N543⟩
          · rw [hn]
            show OwnGo p e below (Tj462.setTop (mkF m 104 #[.val (.int p1), .val (.int p2), .val (.int p3), .val (.int p4), .val (.int p5), .val (.int (3 : Int32)), .val (.int (1 : Int32)), .val .null, .val (.ref s0), .val (.ref s1), .val (.ref s2), .unset, .unset] [])) _
            refine own_back (fun t k => XS.iload Xj462.here hx rfl (hb hby at_104) rfl k) ?_
            show OwnGo p e below (Tj462.setTop (mkF m 106 #[.val (.int p1), .val (.int p2), .val (.int p3), .val (.int p4), .val (.int p5), .val (.int (3 : Int32)), .val (.int (1 : Int32)), .val .null, .val (.ref s0), .val (.ref s1), .val (.ref s2), .unset, .unset] [(.int (3 : Int32))])) _
            obtain ⟨T544, h544, k544, X544, e544, E544, A544, O544, st544⟩ := newR Xj462 hx hZj462 hownj462 (hw _ (List.mem_of_getElem? (i := 4) rfl)) (hw _ (List.mem_of_getElem? (i := 34) rfl)) ej462 (g := (mkF m 106 #[.val (.int p1), .val (.int p2), .val (.int p3), .val (.int p4), .val (.int p5), .val (.int (3 : Int32)), .val (.int (1 : Int32)), .val .null, .val (.ref s0), .val (.ref s1), .val (.ref s2), .unset, .unset] [(.int (3 : Int32))])) rfl (hb hby at_106) rfl (by decide) (cap := 3) (by decide) (by decide) (Nat.le_of_ble_eq_true rfl) (Nat.le_of_ble_eq_true rfl)
            obtain ⟨b544, g544⟩ : ∃ z, z = hj462.size := ⟨_, rfl⟩
            have ge545 : n0 ≤ b544 := Nat.le_trans Zj462 (Nat.le_of_eq g544.symm)
            have sz546 : h0.size ≤ b544 := Nat.le_trans KPj462.1 (Nat.le_of_eq g544.symm)
            rw [← g544] at A544 st544
            have O547 := Oj462.ext E544
            have KP548 := KPj462.ext E544
            have Zs549 := Nat.le_trans Zj462 E544.1
            have CR550 := CRj462.trans (CHr.ext E544 CRj462.1)
            have hk551 := Nat.le_trans hkj462 E544.1
            have f552 := hs462_0.ext E544
            have f553 := hs462_1.ext E544
            have f554 := hs462_2.ext E544
            have V555 : Arv Z h544 b544 k544 (.object "java/lang/String") (3 : Int32) [.null, .null, .null] .null := (Arv.new A544 (by decide)).pad (pad_rep [] .null 3)
            have sf556 := Safe.ext E544 CRj462.1 (Safe.new (Nat.le_of_eq g544.symm))
            refine own_back st544 ?_
            show OwnGo p e below (T544.setTop (mkF m 109 #[.val (.int p1), .val (.int p2), .val (.int p3), .val (.int p4), .val (.int p5), .val (.int (3 : Int32)), .val (.int (1 : Int32)), .val .null, .val (.ref s0), .val (.ref s1), .val (.ref s2), .unset, .unset] [(.ref b544)])) _
            refine own_back (fun t k => XS.astore X544.here hx rfl (hb hby at_109) rfl rfl (l' := #[.val (.int p1), .val (.int p2), .val (.int p3), .val (.int p4), .val (.int p5), .val (.int (3 : Int32)), .val (.int (1 : Int32)), .val .null, .val (.ref s0), .val (.ref s1), .val (.ref s2), .val (.ref b544), .unset]) rfl k) ?_
            show OwnGo p e below (T544.setTop (mkF m 111 #[.val (.int p1), .val (.int p2), .val (.int p3), .val (.int p4), .val (.int p5), .val (.int (3 : Int32)), .val (.int (1 : Int32)), .val .null, .val (.ref s0), .val (.ref s1), .val (.ref s2), .val (.ref b544), .unset] [])) _
            refine own_back (fun t k => XS.iload X544.here hx rfl (hb hby at_111) rfl k) ?_
            show OwnGo p e below (T544.setTop (mkF m 113 #[.val (.int p1), .val (.int p2), .val (.int p3), .val (.int p4), .val (.int p5), .val (.int (3 : Int32)), .val (.int (1 : Int32)), .val .null, .val (.ref s0), .val (.ref s1), .val (.ref s2), .val (.ref b544), .unset] [(.int (3 : Int32))])) _
            refine own_back (fun t k => XS.ifNo X544.here hx rfl (hb hby at_113) rfl (Jvm.Free.XT.i0_le_f (by decide)) k) ?_
            show OwnGo p e below (T544.setTop (mkF m 116 #[.val (.int p1), .val (.int p2), .val (.int p3), .val (.int p4), .val (.int p5), .val (.int (3 : Int32)), .val (.int (1 : Int32)), .val .null, .val (.ref s0), .val (.ref s1), .val (.ref s2), .val (.ref b544), .unset] [])) _
            refine own_back (fun t k => XS.aload X544.here hx rfl (hb hby at_116) rfl rfl k) ?_
            show OwnGo p e below (T544.setTop (mkF m 118 #[.val (.int p1), .val (.int p2), .val (.int p3), .val (.int p4), .val (.int p5), .val (.int (3 : Int32)), .val (.int (1 : Int32)), .val .null, .val (.ref s0), .val (.ref s1), .val (.ref s2), .val (.ref b544), .unset] [(.ref b544)])) _
            refine own_back (fun t k => XS.iconst X544.here hx rfl (hb hby at_118) k) ?_
            show OwnGo p e below (T544.setTop (mkF m 119 #[.val (.int p1), .val (.int p2), .val (.int p3), .val (.int p4), .val (.int p5), .val (.int (3 : Int32)), .val (.int (1 : Int32)), .val .null, .val (.ref s0), .val (.ref s1), .val (.ref s2), .val (.ref b544), .unset] [(.int (0 : Int32)), (.ref b544)])) _
            refine own_back (fun t k => XS.aload X544.here hx rfl (hb hby at_119) rfl rfl k) ?_
            show OwnGo p e below (T544.setTop (mkF m 121 #[.val (.int p1), .val (.int p2), .val (.int p3), .val (.int p4), .val (.int p5), .val (.int (3 : Int32)), .val (.int (1 : Int32)), .val .null, .val (.ref s0), .val (.ref s1), .val (.ref s2), .val (.ref b544), .unset] [(.ref s0), (.int (0 : Int32)), (.ref b544)])) _
            obtain ⟨c557, A557, q557, S557, M557, H557, U557⟩ := id V555
            obtain ⟨T558, h558, X558, e558, W558, st558⟩ := stR X544 hx hZj462 e544 A557 (j := (0 : Int32)) (inb_of S557 ⟨by decide, by decide⟩) rfl (Sto.ofV A557 q557 O544 (Ins.self f552.exa)) (g := (mkF m 121 #[.val (.int p1), .val (.int p2), .val (.int p3), .val (.int p4), .val (.int p5), .val (.int (3 : Int32)), .val (.int (1 : Int32)), .val .null, .val (.ref s0), .val (.ref s1), .val (.ref s2), .val (.ref b544), .unset] [(.ref s0), (.int (0 : Int32)), (.ref b544)])) rfl rfl (hb hby at_121)
            have O559 := O547.wr W558 ge545
            have KP560 := KP548.wr W558 (Or.inr sz546)
            have Zs561 := Nat.le_trans Zs549 (Keep.of_wr W558).1
            have CR562 := CR550.trans (CHr.wr W558 sf556 CR550.1)
            have hk563 := Nat.le_trans hk551 (Keep.of_wr W558).1
            have f564 := (OwnStr.wrA W558 V555 (by decide) (hw _ (List.mem_of_getElem? (i := 5) rfl)) f552)
            have f565 := (OwnStr.wrA W558 V555 (by decide) (hw _ (List.mem_of_getElem? (i := 5) rfl)) f553)
            have f566 := (OwnStr.wrA W558 V555 (by decide) (hw _ (List.mem_of_getElem? (i := 5) rfl)) f554)
            have f567 := (Safe.wr W558 sf556 CR550.1 sf556)
            have V568 : Arv Z h558 b544 k544 (.object "java/lang/String") (3 : Int32) [(.ref s0), .null, .null] .null := Arv.set A557 q557 S557 M557 H557 U557 rfl W558 0 rfl (Nat.le_of_ble_eq_true rfl)
            have N569 := Fr.snoc X558 Nj462 ge545
            refine own_back st558 ?_
            show OwnGo p e below (T558.setTop (mkF m 122 #[.val (.int p1), .val (.int p2), .val (.int p3), .val (.int p4), .val (.int p5), .val (.int (3 : Int32)), .val (.int (1 : Int32)), .val .null, .val (.ref s0), .val (.ref s1), .val (.ref s2), .val (.ref b544), .unset] [])) _
            refine own_back (fun t k => XS.iload X558.here hx rfl (hb hby at_122) rfl k) ?_
            show OwnGo p e below (T558.setTop (mkF m 124 #[.val (.int p1), .val (.int p2), .val (.int p3), .val (.int p4), .val (.int p5), .val (.int (3 : Int32)), .val (.int (1 : Int32)), .val .null, .val (.ref s0), .val (.ref s1), .val (.ref s2), .val (.ref b544), .unset] [(.int (3 : Int32))])) _
            refine own_back (fun t k => XS.iconst X558.here hx rfl (hb hby at_124) k) ?_
            show OwnGo p e below (T558.setTop (mkF m 125 #[.val (.int p1), .val (.int p2), .val (.int p3), .val (.int p4), .val (.int p5), .val (.int (3 : Int32)), .val (.int (1 : Int32)), .val .null, .val (.ref s0), .val (.ref s1), .val (.ref s2), .val (.ref b544), .unset] [(.int (1 : Int32)), (.int (3 : Int32))])) _
            refine own_back (fun t k => XS.icmpNo X558.here hx rfl (hb hby at_125) rfl (Jvm.Free.XT.ii_le_f (by decide)) k) ?_
            show OwnGo p e below (T558.setTop (mkF m 128 #[.val (.int p1), .val (.int p2), .val (.int p3), .val (.int p4), .val (.int p5), .val (.int (3 : Int32)), .val (.int (1 : Int32)), .val .null, .val (.ref s0), .val (.ref s1), .val (.ref s2), .val (.ref b544), .unset] [])) _
            refine own_back (fun t k => XS.aload X558.here hx rfl (hb hby at_128) rfl rfl k) ?_
            show OwnGo p e below (T558.setTop (mkF m 130 #[.val (.int p1), .val (.int p2), .val (.int p3), .val (.int p4), .val (.int p5), .val (.int (3 : Int32)), .val (.int (1 : Int32)), .val .null, .val (.ref s0), .val (.ref s1), .val (.ref s2), .val (.ref b544), .unset] [(.ref b544)])) _
            refine own_back (fun t k => XS.iconst X558.here hx rfl (hb hby at_130) k) ?_
            show OwnGo p e below (T558.setTop (mkF m 131 #[.val (.int p1), .val (.int p2), .val (.int p3), .val (.int p4), .val (.int p5), .val (.int (3 : Int32)), .val (.int (1 : Int32)), .val .null, .val (.ref s0), .val (.ref s1), .val (.ref s2), .val (.ref b544), .unset] [(.int (1 : Int32)), (.ref b544)])) _
            refine own_back (fun t k => XS.aload X558.here hx rfl (hb hby at_131) rfl rfl k) ?_
            show OwnGo p e below (T558.setTop (mkF m 133 #[.val (.int p1), .val (.int p2), .val (.int p3), .val (.int p4), .val (.int p5), .val (.int (3 : Int32)), .val (.int (1 : Int32)), .val .null, .val (.ref s0), .val (.ref s1), .val (.ref s2), .val (.ref b544), .unset] [(.ref s1), (.int (1 : Int32)), (.ref b544)])) _
            obtain ⟨c570, A570, q570, S570, M570, H570, U570⟩ := id V568
            obtain ⟨T571, h571, X571, e571, W571, st571⟩ := stR X558 hx hZj462 e558 A570 (j := (1 : Int32)) (inb_of S570 ⟨by decide, by decide⟩) rfl (Sto.ofV A570 q570 O544 (Ins.self f565.exa)) (g := (mkF m 133 #[.val (.int p1), .val (.int p2), .val (.int p3), .val (.int p4), .val (.int p5), .val (.int (3 : Int32)), .val (.int (1 : Int32)), .val .null, .val (.ref s0), .val (.ref s1), .val (.ref s2), .val (.ref b544), .unset] [(.ref s1), (.int (1 : Int32)), (.ref b544)])) rfl rfl (hb hby at_133)
            have O572 := O559.wr W571 ge545
            have KP573 := KP560.wr W571 (Or.inr sz546)
            have Zs574 := Nat.le_trans Zs561 (Keep.of_wr W571).1
            have CR575 := CR562.trans (CHr.wr W571 f567 CR562.1)
            have hk576 := Nat.le_trans hk563 (Keep.of_wr W571).1
            have f577 := (OwnStr.wrA W571 V568 (by decide) (hw _ (List.mem_of_getElem? (i := 5) rfl)) f564)
            have f578 := (OwnStr.wrA W571 V568 (by decide) (hw _ (List.mem_of_getElem? (i := 5) rfl)) f565)
            have f579 := (OwnStr.wrA W571 V568 (by decide) (hw _ (List.mem_of_getElem? (i := 5) rfl)) f566)
            have f580 := (Safe.wr W571 f567 CR562.1 f567)
            have V581 : Arv Z h571 b544 k544 (.object "java/lang/String") (3 : Int32) [(.ref s0), (.ref s1), .null] .null := Arv.set A570 q570 S570 M570 H570 U570 rfl W571 1 rfl (Nat.le_of_ble_eq_true rfl)
            have N582 := Fr.snoc X571 N569 ge545
            refine own_back st571 ?_
            show OwnGo p e below (T571.setTop (mkF m 134 #[.val (.int p1), .val (.int p2), .val (.int p3), .val (.int p4), .val (.int p5), .val (.int (3 : Int32)), .val (.int (1 : Int32)), .val .null, .val (.ref s0), .val (.ref s1), .val (.ref s2), .val (.ref b544), .unset] [])) _
            refine own_back (fun t k => XS.iload X571.here hx rfl (hb hby at_134) rfl k) ?_
            show OwnGo p e below (T571.setTop (mkF m 136 #[.val (.int p1), .val (.int p2), .val (.int p3), .val (.int p4), .val (.int p5), .val (.int (3 : Int32)), .val (.int (1 : Int32)), .val .null, .val (.ref s0), .val (.ref s1), .val (.ref s2), .val (.ref b544), .unset] [(.int (3 : Int32))])) _
            refine own_back (fun t k => XS.iconst X571.here hx rfl (hb hby at_136) k) ?_
            show OwnGo p e below (T571.setTop (mkF m 137 #[.val (.int p1), .val (.int p2), .val (.int p3), .val (.int p4), .val (.int p5), .val (.int (3 : Int32)), .val (.int (1 : Int32)), .val .null, .val (.ref s0), .val (.ref s1), .val (.ref s2), .val (.ref b544), .unset] [(.int (2 : Int32)), (.int (3 : Int32))])) _
            refine own_back (fun t k => XS.icmpNo X571.here hx rfl (hb hby at_137) rfl (Jvm.Free.XT.ii_le_f (by decide)) k) ?_
            show OwnGo p e below (T571.setTop (mkF m 140 #[.val (.int p1), .val (.int p2), .val (.int p3), .val (.int p4), .val (.int p5), .val (.int (3 : Int32)), .val (.int (1 : Int32)), .val .null, .val (.ref s0), .val (.ref s1), .val (.ref s2), .val (.ref b544), .unset] [])) _
            refine own_back (fun t k => XS.aload X571.here hx rfl (hb hby at_140) rfl rfl k) ?_
            show OwnGo p e below (T571.setTop (mkF m 142 #[.val (.int p1), .val (.int p2), .val (.int p3), .val (.int p4), .val (.int p5), .val (.int (3 : Int32)), .val (.int (1 : Int32)), .val .null, .val (.ref s0), .val (.ref s1), .val (.ref s2), .val (.ref b544), .unset] [(.ref b544)])) _
            refine own_back (fun t k => XS.iconst X571.here hx rfl (hb hby at_142) k) ?_
            show OwnGo p e below (T571.setTop (mkF m 143 #[.val (.int p1), .val (.int p2), .val (.int p3), .val (.int p4), .val (.int p5), .val (.int (3 : Int32)), .val (.int (1 : Int32)), .val .null, .val (.ref s0), .val (.ref s1), .val (.ref s2), .val (.ref b544), .unset] [(.int (2 : Int32)), (.ref b544)])) _
            refine own_back (fun t k => XS.aload X571.here hx rfl (hb hby at_143) rfl rfl k) ?_
            show OwnGo p e below (T571.setTop (mkF m 145 #[.val (.int p1), .val (.int p2), .val (.int p3), .val (.int p4), .val (.int p5), .val (.int (3 : Int32)), .val (.int (1 : Int32)), .val .null, .val (.ref s0), .val (.ref s1), .val (.ref s2), .val (.ref b544), .unset] [(.ref s2), (.int (2 : Int32)), (.ref b544)])) _
            obtain ⟨c583, A583, q583, S583, M583, H583, U583⟩ := id V581
            obtain ⟨T584, h584, X584, e584, W584, st584⟩ := stR X571 hx hZj462 e571 A583 (j := (2 : Int32)) (inb_of S583 ⟨by decide, by decide⟩) rfl (Sto.ofV A583 q583 O544 (Ins.self f579.exa)) (g := (mkF m 145 #[.val (.int p1), .val (.int p2), .val (.int p3), .val (.int p4), .val (.int p5), .val (.int (3 : Int32)), .val (.int (1 : Int32)), .val .null, .val (.ref s0), .val (.ref s1), .val (.ref s2), .val (.ref b544), .unset] [(.ref s2), (.int (2 : Int32)), (.ref b544)])) rfl rfl (hb hby at_145)
            have O585 := O572.wr W584 ge545
            have KP586 := KP573.wr W584 (Or.inr sz546)
            have Zs587 := Nat.le_trans Zs574 (Keep.of_wr W584).1
            have CR588 := CR575.trans (CHr.wr W584 f580 CR575.1)
            have hk589 := Nat.le_trans hk576 (Keep.of_wr W584).1
            have f590 := (OwnStr.wrA W584 V581 (by decide) (hw _ (List.mem_of_getElem? (i := 5) rfl)) f577)
            have f591 := (OwnStr.wrA W584 V581 (by decide) (hw _ (List.mem_of_getElem? (i := 5) rfl)) f578)
            have f592 := (OwnStr.wrA W584 V581 (by decide) (hw _ (List.mem_of_getElem? (i := 5) rfl)) f579)
            have f593 := (Safe.wr W584 f580 CR575.1 f580)
            have V594 : Arv Z h584 b544 k544 (.object "java/lang/String") (3 : Int32) [(.ref s0), (.ref s1), (.ref s2)] .null := Arv.set A583 q583 S583 M583 H583 U583 rfl W584 2 rfl (Nat.le_of_ble_eq_true rfl)
            have N595 := Fr.snoc X584 N582 ge545
            refine own_back st584 ?_
            show OwnGo p e below (T584.setTop (mkF m 146 #[.val (.int p1), .val (.int p2), .val (.int p3), .val (.int p4), .val (.int p5), .val (.int (3 : Int32)), .val (.int (1 : Int32)), .val .null, .val (.ref s0), .val (.ref s1), .val (.ref s2), .val (.ref b544), .unset] [])) _
            refine own_back (fun t k => XS.iconst X584.here hx rfl (hb hby at_146) k) ?_
            show OwnGo p e below (T584.setTop (mkF m 147 #[.val (.int p1), .val (.int p2), .val (.int p3), .val (.int p4), .val (.int p5), .val (.int (3 : Int32)), .val (.int (1 : Int32)), .val .null, .val (.ref s0), .val (.ref s1), .val (.ref s2), .val (.ref b544), .unset] [(.int (0 : Int32))])) _
            refine own_back (fun t k => XS.istore X584.here hx rfl (hb hby at_147) rfl (l' := #[.val (.int p1), .val (.int p2), .val (.int p3), .val (.int p4), .val (.int p5), .val (.int (3 : Int32)), .val (.int (1 : Int32)), .val .null, .val (.ref s0), .val (.ref s1), .val (.ref s2), .val (.ref b544), .val (.int (0 : Int32))]) rfl k) ?_
            show OwnGo p e below (T584.setTop (mkF m 149 #[.val (.int p1), .val (.int p2), .val (.int p3), .val (.int p4), .val (.int p5), .val (.int (3 : Int32)), .val (.int (1 : Int32)), .val .null, .val (.ref s0), .val (.ref s1), .val (.ref s2), .val (.ref b544), .val (.int (0 : Int32))] [])) _
            refine own_back (fun t k => XS.iload X584.here hx rfl (hb hby at_149) rfl k) ?_
            show OwnGo p e below (T584.setTop (mkF m 151 #[.val (.int p1), .val (.int p2), .val (.int p3), .val (.int p4), .val (.int p5), .val (.int (3 : Int32)), .val (.int (1 : Int32)), .val .null, .val (.ref s0), .val (.ref s1), .val (.ref s2), .val (.ref b544), .val (.int (0 : Int32))] [(.int (1 : Int32))])) _
            refine own_back (fun t k => XS.ifYes X584.here hx rfl (pc0 := 151) (pc' := 208) rfl (hb hby at_151) rfl (Jvm.Free.XT.i0_ne_t (by decide)) (by decide) (by decide) k) ?_
            show OwnGo p e below (T584.setTop (mkF m 208 #[.val (.int p1), .val (.int p2), .val (.int p3), .val (.int p4), .val (.int p5), .val (.int (3 : Int32)), .val (.int (1 : Int32)), .val .null, .val (.ref s0), .val (.ref s1), .val (.ref s2), .val (.ref b544), .val (.int (0 : Int32))] [])) _
            refine own_back (fun t k => XS.aload X584.here hx rfl (hb hby at_208) rfl rfl k) ?_
            show OwnGo p e below (T584.setTop (mkF m 210 #[.val (.int p1), .val (.int p2), .val (.int p3), .val (.int p4), .val (.int p5), .val (.int (3 : Int32)), .val (.int (1 : Int32)), .val .null, .val (.ref s0), .val (.ref s1), .val (.ref s2), .val (.ref b544), .val (.int (0 : Int32))] [.null])) _
            refine own_back (fun t k => XS.aload X584.here hx rfl (hb hby at_210) rfl rfl k) ?_
            show OwnGo p e below (T584.setTop (mkF m 212 #[.val (.int p1), .val (.int p2), .val (.int p3), .val (.int p4), .val (.int p5), .val (.int (3 : Int32)), .val (.int (1 : Int32)), .val .null, .val (.ref s0), .val (.ref s1), .val (.ref s2), .val (.ref b544), .val (.int (0 : Int32))] [(.ref b544), .null])) _
            obtain ⟨_, _, ⟨T596, L596, k596, n596⟩, -, X596, ⟨Lc596, hQ596, l596, y596, z596⟩, st596⟩ := Jvm.LawKit.callS X584 hx (y := (⟨"com/example/lease/lease/cli/OptionValues", "oneOf", "(Ljava/lang/String;[Ljava/lang/String;)Z"⟩ : MethodName)) hownj462 (mvT hZj462 (hw _ (List.mem_of_getElem? (i := 35) rfl))) (mvT hZj462 (hw _ (List.mem_of_getElem? (i := 36) rfl))) (mvT hZj462 (hw _ (List.mem_of_getElem? (i := 37) rfl))) (mvT hZj462 (hw _ (List.mem_of_getElem? (i := 38) rfl))) (by decide) (own_backN (W := 0) (rm_oo3n l Z a0 hw [] b544 k544 s0 s1 s2 u0 u1 u2 h584 n0 Zs587 V594 f590 f591 f592) hZj462 (hw _ (List.mem_of_getElem? (i := 38) rfl)) (hw _ (List.mem_of_getElem? (i := 37) rfl)) (by decide) (by decide)) (g := (mkF m 212 #[.val (.int p1), .val (.int p2), .val (.int p3), .val (.int p4), .val (.int p5), .val (.int (3 : Int32)), .val (.int (1 : Int32)), .val .null, .val (.ref s0), .val (.ref s1), .val (.ref s2), .val (.ref b544), .val (.int (0 : Int32))] [(.ref b544), .null])) rfl (by rw [hml]; rfl) (argsL := [.null, (.ref b544)]) (rest := []) (lenOf lw_pd0 rfl) rfl (by show 2 * 0 + _ ≤ _; exact Nat.le_of_eq rfl) (hb hby at_212) (fun _ _ => ⟨rfl, e584, Nat.le_of_ble_eq_true rfl, Nat.le_of_ble_eq_true rfl⟩)
            dsimp only [Pt.U, Pt.locs, Pt.cells, Pt.slots] at X596 l596 y596 z596 st596 hQ596
            subst l596 y596 z596
            obtain ⟨rfl, N596q, hh596⟩ := hQ596
            refine own_back st596 ?_
            have N596 := Fr.app N595 N596q
            show OwnGo p e below (T596.setTop (mkF m 215 #[.val (.int p1), .val (.int p2), .val (.int p3), .val (.int p4), .val (.int p5), .val (.int (3 : Int32)), .val (.int (1 : Int32)), .val .null, .val (.ref s0), .val (.ref s1), .val (.ref s2), .val (.ref b544), .val (.int (0 : Int32))] [(.int (0 : Int32))])) _
            refine own_back (fun t k => XS.iload X596.here hx rfl (hb hby at_215) rfl k) ?_
            show OwnGo p e below (T596.setTop (mkF m 217 #[.val (.int p1), .val (.int p2), .val (.int p3), .val (.int p4), .val (.int p5), .val (.int (3 : Int32)), .val (.int (1 : Int32)), .val .null, .val (.ref s0), .val (.ref s1), .val (.ref s2), .val (.ref b544), .val (.int (0 : Int32))] [(.int (0 : Int32)), (.int (0 : Int32))])) _
            refine own_back (fun t k => XS.icmpNo X596.here hx rfl (hb hby at_217) rfl (Jvm.Free.XT.ii_ne_f (by decide)) k) ?_
            show OwnGo p e below (T596.setTop (mkF m 220 #[.val (.int p1), .val (.int p2), .val (.int p3), .val (.int p4), .val (.int p5), .val (.int (3 : Int32)), .val (.int (1 : Int32)), .val .null, .val (.ref s0), .val (.ref s1), .val (.ref s2), .val (.ref b544), .val (.int (0 : Int32))] [])) _
            refine own_back (fun t k => XS.iconst X596.here hx rfl (hb hby at_220) k) ?_
            show OwnGo p e below (T596.setTop (mkF m 221 #[.val (.int p1), .val (.int p2), .val (.int p3), .val (.int p4), .val (.int p5), .val (.int (3 : Int32)), .val (.int (1 : Int32)), .val .null, .val (.ref s0), .val (.ref s1), .val (.ref s2), .val (.ref b544), .val (.int (0 : Int32))] [(.int (1 : Int32))])) _
            refine own_back (fun t k => XS.goto X596.here hx rfl (pc0 := 221) (pc' := 225) rfl (hb hby at_221) (by decide) (by decide) k) ?_
            show OwnGo p e below (T596.setTop (mkF m 225 #[.val (.int p1), .val (.int p2), .val (.int p3), .val (.int p4), .val (.int p5), .val (.int (3 : Int32)), .val (.int (1 : Int32)), .val .null, .val (.ref s0), .val (.ref s1), .val (.ref s2), .val (.ref b544), .val (.int (0 : Int32))] [(.int (1 : Int32))])) _
            refine own_retNW X596 hx Bd.notSynchronized (t := .boolean) (z := (1 : Int32)) Bd.returns (by simp) rfl hSj462 hk589 hZj462 hEL (hh ▸ CR588) (hb hby at_225) hh596 (Nat.le_of_ble_eq_true rfl) (Nat.le_of_ble_eq_true rfl) ?_
            exact ⟨rfl, N596⟩
        by_cases hc88_597 : (((p5.toUInt32 >>> ((4 : Int32) &&& 31).toUInt32).toInt32) &&& (1 : Int32)) = (0 : Int32)
        · refine own_back (fun t k => XS.ifYes Xj461.here hx rfl (pc0 := 88) (pc' := 98) rfl (hb hby at_88) rfl (Jvm.Free.XT.i0_eq_t hc88_597) (by decide) (by decide) k) ?_
          show OwnGo p e below (Tj461.setTop (mkF m 98 #[.val (.int p1), .val (.int p2), .val (.int p3), .val (.int p4), .val (.int p5), .val (.int (p5 &&& (3 : Int32))), .val (.int (1 : Int32)), .val .null, .val (.ref s0), .val (.ref s1), .unset, .unset, .unset] [])) _
          refine own_back (fun t k => XS.iloadN Xj461.here hx rfl (hb hby at_98) rfl k) ?_
          show OwnGo p e below (Tj461.setTop (mkF m 99 #[.val (.int p1), .val (.int p2), .val (.int p3), .val (.int p4), .val (.int p5), .val (.int (p5 &&& (3 : Int32))), .val (.int (1 : Int32)), .val .null, .val (.ref s0), .val (.ref s1), .unset, .unset, .unset] [(.int p4)])) _
          obtain ⟨_, _, ⟨T598, L598, k598, n598⟩, -, X598, hSn598, hgr598, ⟨Lc598, hQ598, l598, y598, z598, CRn598⟩, st598⟩ := callSS Xj461 hx (y := (⟨"com/example/lease/lease/cli/OptionValuesOneOfPinLaw", "mk", "(I)Ljava/lang/String;"⟩ : MethodName)) hownj461 (mvT hZj461 (hw _ (List.mem_of_getElem? (i := 0) rfl))) (mvT hZj461 (hw _ (List.mem_of_getElem? (i := 1) rfl))) (mvT hZj461 (hw _ (List.mem_of_getElem? (i := 2) rfl))) (mvT hZj461 (hw _ (List.mem_of_getElem? (i := 3) rfl))) (by decide) (own_backH (W := 0) (rm_mk l Z a0 hw [] p4 cz hj461 n0 Zj461 Oj461 SC hcz) hZj461 (hw _ (List.mem_of_getElem? (i := 3) rfl)) (hw _ (List.mem_of_getElem? (i := 2) rfl)) (by decide) (by decide) hEL CRj461.1 sf0 all0) (g := (mkF m 99 #[.val (.int p1), .val (.int p2), .val (.int p3), .val (.int p4), .val (.int p5), .val (.int (p5 &&& (3 : Int32))), .val (.int (1 : Int32)), .val .null, .val (.ref s0), .val (.ref s1), .unset, .unset, .unset] [(.int p4)])) rfl (by rw [hml]; rfl) (argsL := [(.int p4)]) (rest := []) (lenOf lw_pd1 rfl) rfl (by show 2 * 0 + _ ≤ _; exact Nat.le_of_eq rfl) (hb hby at_99) (fun _ _ => ⟨rfl, ej461, Nat.le_of_ble_eq_true rfl, Nat.le_of_ble_eq_true rfl⟩)
          dsimp only [Pt.U, Pt.locs, Pt.cells, Pt.slots] at X598 l598 y598 z598 st598 hQ598 hSn598 hgr598 CRn598
          subst l598 y598 z598
          obtain ⟨Xr598, hSr598, hZr598, hownr598⟩ := rebS hSj461 (own_hle ej461 hkj461) X598 hSn598 hgr598 hZj461 hownj461
          obtain ⟨am598, rfl, N598q, E598, B598⟩ := hQ598
          refine own_seq st598 ?_
          have N598 := Fr.app Nj461 N598q
          have O599 := Oj461.ext E598
          have KP600 := KPj461.ext E598
          have Zs601 := Nat.le_trans Zj461 E598.1
          have CR602 := CRj461.trans CRn598
          have f603 := hs461_0.ext E598
          have f604 := hs461_1.ext E598
          show OwnGo p e below (T598.setTop (mkF m 102 #[.val (.int p1), .val (.int p2), .val (.int p3), .val (.int p4), .val (.int p5), .val (.int (p5 &&& (3 : Int32))), .val (.int (1 : Int32)), .val .null, .val (.ref s0), .val (.ref s1), .unset, .unset, .unset] [(.ref am598)])) _
          exact tl102_462 _ _ _ _ ⟨_, _, _, Xr598, rfl, hSr598, (Nat.le_refl _), hZr598, hownr598, CR602, O599, KP600, Zs601, N598⟩ f603 f604 B598
        · refine own_back (fun t k => XS.ifNo Xj461.here hx rfl (hb hby at_88) rfl (Jvm.Free.XT.i0_eq_f hc88_597) k) ?_
          show OwnGo p e below (Tj461.setTop (mkF m 91 #[.val (.int p1), .val (.int p2), .val (.int p3), .val (.int p4), .val (.int p5), .val (.int (p5 &&& (3 : Int32))), .val (.int (1 : Int32)), .val .null, .val (.ref s0), .val (.ref s1), .unset, .unset, .unset] [])) _
          refine own_back (fun t k => XS.iloadN Xj461.here hx rfl (hb hby at_91) rfl k) ?_
          show OwnGo p e below (Tj461.setTop (mkF m 92 #[.val (.int p1), .val (.int p2), .val (.int p3), .val (.int p4), .val (.int p5), .val (.int (p5 &&& (3 : Int32))), .val (.int (1 : Int32)), .val .null, .val (.ref s0), .val (.ref s1), .unset, .unset, .unset] [(.int p1)])) _
          obtain ⟨_, _, ⟨T605, L605, k605, n605⟩, -, X605, hSn605, hgr605, ⟨Lc605, hQ605, l605, y605, z605, CRn605⟩, st605⟩ := callSS Xj461 hx (y := (⟨"com/example/lease/lease/cli/OptionValuesOneOfPinLaw", "mk", "(I)Ljava/lang/String;"⟩ : MethodName)) hownj461 (mvT hZj461 (hw _ (List.mem_of_getElem? (i := 0) rfl))) (mvT hZj461 (hw _ (List.mem_of_getElem? (i := 1) rfl))) (mvT hZj461 (hw _ (List.mem_of_getElem? (i := 2) rfl))) (mvT hZj461 (hw _ (List.mem_of_getElem? (i := 3) rfl))) (by decide) (own_backH (W := 0) (rm_mk l Z a0 hw [] p1 cz hj461 n0 Zj461 Oj461 SC hcz) hZj461 (hw _ (List.mem_of_getElem? (i := 3) rfl)) (hw _ (List.mem_of_getElem? (i := 2) rfl)) (by decide) (by decide) hEL CRj461.1 sf0 all0) (g := (mkF m 92 #[.val (.int p1), .val (.int p2), .val (.int p3), .val (.int p4), .val (.int p5), .val (.int (p5 &&& (3 : Int32))), .val (.int (1 : Int32)), .val .null, .val (.ref s0), .val (.ref s1), .unset, .unset, .unset] [(.int p1)])) rfl (by rw [hml]; rfl) (argsL := [(.int p1)]) (rest := []) (lenOf lw_pd1 rfl) rfl (by show 2 * 0 + _ ≤ _; exact Nat.le_of_eq rfl) (hb hby at_92) (fun _ _ => ⟨rfl, ej461, Nat.le_of_ble_eq_true rfl, Nat.le_of_ble_eq_true rfl⟩)
          dsimp only [Pt.U, Pt.locs, Pt.cells, Pt.slots] at X605 l605 y605 z605 st605 hQ605 hSn605 hgr605 CRn605
          subst l605 y605 z605
          obtain ⟨Xr605, hSr605, hZr605, hownr605⟩ := rebS hSj461 (own_hle ej461 hkj461) X605 hSn605 hgr605 hZj461 hownj461
          obtain ⟨am605, rfl, N605q, E605, B605⟩ := hQ605
          refine own_seq st605 ?_
          have N605 := Fr.app Nj461 N605q
          have O606 := Oj461.ext E605
          have KP607 := KPj461.ext E605
          have Zs608 := Nat.le_trans Zj461 E605.1
          have CR609 := CRj461.trans CRn605
          have f610 := hs461_0.ext E605
          have f611 := hs461_1.ext E605
          show OwnGo p e below (T605.setTop (mkF m 95 #[.val (.int p1), .val (.int p2), .val (.int p3), .val (.int p4), .val (.int p5), .val (.int (p5 &&& (3 : Int32))), .val (.int (1 : Int32)), .val .null, .val (.ref s0), .val (.ref s1), .unset, .unset, .unset] [(.ref am605)])) _
          refine own_back (fun t k => XS.goto Xr605.here hx rfl (pc0 := 95) (pc' := 102) rfl (hb hby at_95) (by decide) (by decide) k) ?_
          show OwnGo p e below (T605.setTop (mkF m 102 #[.val (.int p1), .val (.int p2), .val (.int p3), .val (.int p4), .val (.int p5), .val (.int (p5 &&& (3 : Int32))), .val (.int (1 : Int32)), .val .null, .val (.ref s0), .val (.ref s1), .unset, .unset, .unset] [(.ref am605)])) _
          exact tl102_462 _ _ _ _ ⟨_, _, _, Xr605, rfl, hSr605, (Nat.le_refl _), hZr605, hownr605, CR609, O606, KP607, Zs608, N605⟩ f610 f611 B605
      by_cases hc66_612 : (((p5.toUInt32 >>> ((3 : Int32) &&& 31).toUInt32).toInt32) &&& (1 : Int32)) = (0 : Int32)
      · refine own_back (fun t k => XS.ifYes Xj460.here hx rfl (pc0 := 66) (pc' := 76) rfl (hb hby at_66) rfl (Jvm.Free.XT.i0_eq_t hc66_612) (by decide) (by decide) k) ?_
        show OwnGo p e below (Tj460.setTop (mkF m 76 #[.val (.int p1), .val (.int p2), .val (.int p3), .val (.int p4), .val (.int p5), .val (.int (p5 &&& (3 : Int32))), .val (.int (1 : Int32)), .val .null, .val (.ref s0), .unset, .unset, .unset, .unset] [])) _
        refine own_back (fun t k => XS.iloadN Xj460.here hx rfl (hb hby at_76) rfl k) ?_
        show OwnGo p e below (Tj460.setTop (mkF m 77 #[.val (.int p1), .val (.int p2), .val (.int p3), .val (.int p4), .val (.int p5), .val (.int (p5 &&& (3 : Int32))), .val (.int (1 : Int32)), .val .null, .val (.ref s0), .unset, .unset, .unset, .unset] [(.int p3)])) _
        obtain ⟨_, _, ⟨T613, L613, k613, n613⟩, -, X613, hSn613, hgr613, ⟨Lc613, hQ613, l613, y613, z613, CRn613⟩, st613⟩ := callSS Xj460 hx (y := (⟨"com/example/lease/lease/cli/OptionValuesOneOfPinLaw", "mk", "(I)Ljava/lang/String;"⟩ : MethodName)) hownj460 (mvT hZj460 (hw _ (List.mem_of_getElem? (i := 0) rfl))) (mvT hZj460 (hw _ (List.mem_of_getElem? (i := 1) rfl))) (mvT hZj460 (hw _ (List.mem_of_getElem? (i := 2) rfl))) (mvT hZj460 (hw _ (List.mem_of_getElem? (i := 3) rfl))) (by decide) (own_backH (W := 0) (rm_mk l Z a0 hw [] p3 cz hj460 n0 Zj460 Oj460 SC hcz) hZj460 (hw _ (List.mem_of_getElem? (i := 3) rfl)) (hw _ (List.mem_of_getElem? (i := 2) rfl)) (by decide) (by decide) hEL CRj460.1 sf0 all0) (g := (mkF m 77 #[.val (.int p1), .val (.int p2), .val (.int p3), .val (.int p4), .val (.int p5), .val (.int (p5 &&& (3 : Int32))), .val (.int (1 : Int32)), .val .null, .val (.ref s0), .unset, .unset, .unset, .unset] [(.int p3)])) rfl (by rw [hml]; rfl) (argsL := [(.int p3)]) (rest := []) (lenOf lw_pd1 rfl) rfl (by show 2 * 0 + _ ≤ _; exact Nat.le_of_eq rfl) (hb hby at_77) (fun _ _ => ⟨rfl, ej460, Nat.le_of_ble_eq_true rfl, Nat.le_of_ble_eq_true rfl⟩)
        dsimp only [Pt.U, Pt.locs, Pt.cells, Pt.slots] at X613 l613 y613 z613 st613 hQ613 hSn613 hgr613 CRn613
        subst l613 y613 z613
        obtain ⟨Xr613, hSr613, hZr613, hownr613⟩ := rebS hSj460 (own_hle ej460 hkj460) X613 hSn613 hgr613 hZj460 hownj460
        obtain ⟨am613, rfl, N613q, E613, B613⟩ := hQ613
        refine own_seq st613 ?_
        have N613 := Fr.app Nj460 N613q
        have O614 := Oj460.ext E613
        have KP615 := KPj460.ext E613
        have Zs616 := Nat.le_trans Zj460 E613.1
        have CR617 := CRj460.trans CRn613
        have f618 := hs460_0.ext E613
        show OwnGo p e below (T613.setTop (mkF m 80 #[.val (.int p1), .val (.int p2), .val (.int p3), .val (.int p4), .val (.int p5), .val (.int (p5 &&& (3 : Int32))), .val (.int (1 : Int32)), .val .null, .val (.ref s0), .unset, .unset, .unset, .unset] [(.ref am613)])) _
        exact tl80_461 _ _ _ _ ⟨_, _, _, Xr613, rfl, hSr613, (Nat.le_refl _), hZr613, hownr613, CR617, O614, KP615, Zs616, N613⟩ f618 B613
      · refine own_back (fun t k => XS.ifNo Xj460.here hx rfl (hb hby at_66) rfl (Jvm.Free.XT.i0_eq_f hc66_612) k) ?_
        show OwnGo p e below (Tj460.setTop (mkF m 69 #[.val (.int p1), .val (.int p2), .val (.int p3), .val (.int p4), .val (.int p5), .val (.int (p5 &&& (3 : Int32))), .val (.int (1 : Int32)), .val .null, .val (.ref s0), .unset, .unset, .unset, .unset] [])) _
        refine own_back (fun t k => XS.iloadN Xj460.here hx rfl (hb hby at_69) rfl k) ?_
        show OwnGo p e below (Tj460.setTop (mkF m 70 #[.val (.int p1), .val (.int p2), .val (.int p3), .val (.int p4), .val (.int p5), .val (.int (p5 &&& (3 : Int32))), .val (.int (1 : Int32)), .val .null, .val (.ref s0), .unset, .unset, .unset, .unset] [(.int p1)])) _
        obtain ⟨_, _, ⟨T619, L619, k619, n619⟩, -, X619, hSn619, hgr619, ⟨Lc619, hQ619, l619, y619, z619, CRn619⟩, st619⟩ := callSS Xj460 hx (y := (⟨"com/example/lease/lease/cli/OptionValuesOneOfPinLaw", "mk", "(I)Ljava/lang/String;"⟩ : MethodName)) hownj460 (mvT hZj460 (hw _ (List.mem_of_getElem? (i := 0) rfl))) (mvT hZj460 (hw _ (List.mem_of_getElem? (i := 1) rfl))) (mvT hZj460 (hw _ (List.mem_of_getElem? (i := 2) rfl))) (mvT hZj460 (hw _ (List.mem_of_getElem? (i := 3) rfl))) (by decide) (own_backH (W := 0) (rm_mk l Z a0 hw [] p1 cz hj460 n0 Zj460 Oj460 SC hcz) hZj460 (hw _ (List.mem_of_getElem? (i := 3) rfl)) (hw _ (List.mem_of_getElem? (i := 2) rfl)) (by decide) (by decide) hEL CRj460.1 sf0 all0) (g := (mkF m 70 #[.val (.int p1), .val (.int p2), .val (.int p3), .val (.int p4), .val (.int p5), .val (.int (p5 &&& (3 : Int32))), .val (.int (1 : Int32)), .val .null, .val (.ref s0), .unset, .unset, .unset, .unset] [(.int p1)])) rfl (by rw [hml]; rfl) (argsL := [(.int p1)]) (rest := []) (lenOf lw_pd1 rfl) rfl (by show 2 * 0 + _ ≤ _; exact Nat.le_of_eq rfl) (hb hby at_70) (fun _ _ => ⟨rfl, ej460, Nat.le_of_ble_eq_true rfl, Nat.le_of_ble_eq_true rfl⟩)
        dsimp only [Pt.U, Pt.locs, Pt.cells, Pt.slots] at X619 l619 y619 z619 st619 hQ619 hSn619 hgr619 CRn619
        subst l619 y619 z619
        obtain ⟨Xr619, hSr619, hZr619, hownr619⟩ := rebS hSj460 (own_hle ej460 hkj460) X619 hSn619 hgr619 hZj460 hownj460
        obtain ⟨am619, rfl, N619q, E619, B619⟩ := hQ619
        refine own_seq st619 ?_
        have N619 := Fr.app Nj460 N619q
        have O620 := Oj460.ext E619
        have KP621 := KPj460.ext E619
        have Zs622 := Nat.le_trans Zj460 E619.1
        have CR623 := CRj460.trans CRn619
        have f624 := hs460_0.ext E619
        show OwnGo p e below (T619.setTop (mkF m 73 #[.val (.int p1), .val (.int p2), .val (.int p3), .val (.int p4), .val (.int p5), .val (.int (p5 &&& (3 : Int32))), .val (.int (1 : Int32)), .val .null, .val (.ref s0), .unset, .unset, .unset, .unset] [(.ref am619)])) _
        refine own_back (fun t k => XS.goto Xr619.here hx rfl (pc0 := 73) (pc' := 80) rfl (hb hby at_73) (by decide) (by decide) k) ?_
        show OwnGo p e below (T619.setTop (mkF m 80 #[.val (.int p1), .val (.int p2), .val (.int p3), .val (.int p4), .val (.int p5), .val (.int (p5 &&& (3 : Int32))), .val (.int (1 : Int32)), .val .null, .val (.ref s0), .unset, .unset, .unset, .unset] [(.ref am619)])) _
        exact tl80_461 _ _ _ _ ⟨_, _, _, Xr619, rfl, hSr619, (Nat.le_refl _), hZr619, hownr619, CR623, O620, KP621, Zs622, N619⟩ f624 B619
    by_cases hc44_625 : (((p5.toUInt32 >>> ((2 : Int32) &&& 31).toUInt32).toInt32) &&& (1 : Int32)) = (0 : Int32)
    · refine own_back (fun t k => XS.ifYes X0.here hx rfl (pc0 := 44) (pc' := 54) rfl (hb hby at_44) rfl (Jvm.Free.XT.i0_eq_t hc44_625) (by decide) (by decide) k) ?_
      show OwnGo p e below (s₁.setTop (mkF m 54 #[.val (.int p1), .val (.int p2), .val (.int p3), .val (.int p4), .val (.int p5), .val (.int (p5 &&& (3 : Int32))), .val (.int (1 : Int32)), .val .null, .unset, .unset, .unset, .unset, .unset] [])) _
      refine own_back (fun t k => XS.iloadN X0.here hx rfl (hb hby at_54) rfl k) ?_
      show OwnGo p e below (s₁.setTop (mkF m 55 #[.val (.int p1), .val (.int p2), .val (.int p3), .val (.int p4), .val (.int p5), .val (.int (p5 &&& (3 : Int32))), .val (.int (1 : Int32)), .val .null, .unset, .unset, .unset, .unset, .unset] [(.int p2)])) _
      obtain ⟨_, _, ⟨T626, L626, k626, n626⟩, -, X626, hSn626, hgr626, ⟨Lc626, hQ626, l626, y626, z626, CRn626⟩, st626⟩ := callSS X0 hx (y := (⟨"com/example/lease/lease/cli/OptionValuesOneOfPinLaw", "mk", "(I)Ljava/lang/String;"⟩ : MethodName)) hown (mvT hZ (hw _ (List.mem_of_getElem? (i := 0) rfl))) (mvT hZ (hw _ (List.mem_of_getElem? (i := 1) rfl))) (mvT hZ (hw _ (List.mem_of_getElem? (i := 2) rfl))) (mvT hZ (hw _ (List.mem_of_getElem? (i := 3) rfl))) (by decide) (own_backH (W := 0) (rm_mk l Z a0 hw [] p2 cz h0 n0 Z0 OL SC hcz) hZ (hw _ (List.mem_of_getElem? (i := 3) rfl)) (hw _ (List.mem_of_getElem? (i := 2) rfl)) (by decide) (by decide) hEL CR0.1 sf0 all0) (g := (mkF m 55 #[.val (.int p1), .val (.int p2), .val (.int p3), .val (.int p4), .val (.int p5), .val (.int (p5 &&& (3 : Int32))), .val (.int (1 : Int32)), .val .null, .unset, .unset, .unset, .unset, .unset] [(.int p2)])) rfl (by rw [hml]; rfl) (argsL := [(.int p2)]) (rest := []) (lenOf lw_pd1 rfl) rfl (by show 2 * 0 + _ ≤ _; exact Nat.le_of_eq rfl) (hb hby at_55) (fun _ _ => ⟨rfl, e0, Nat.le_of_ble_eq_true rfl, Nat.le_of_ble_eq_true rfl⟩)
      dsimp only [Pt.U, Pt.locs, Pt.cells, Pt.slots] at X626 l626 y626 z626 st626 hQ626 hSn626 hgr626 CRn626
      subst l626 y626 z626
      obtain ⟨Xr626, hSr626, hZr626, hownr626⟩ := rebS hS0 (own_hle e0 hk0) X626 hSn626 hgr626 hZ hown
      obtain ⟨am626, rfl, N626q, E626, B626⟩ := hQ626
      refine own_seq st626 ?_
      have N626 := Fr.app N0 N626q
      have O627 := OL.ext E626
      have KP628 := KP0.ext E626
      have Zs629 := Nat.le_trans Z0 E626.1
      have CR630 := CR0.trans CRn626
      show OwnGo p e below (T626.setTop (mkF m 58 #[.val (.int p1), .val (.int p2), .val (.int p3), .val (.int p4), .val (.int p5), .val (.int (p5 &&& (3 : Int32))), .val (.int (1 : Int32)), .val .null, .unset, .unset, .unset, .unset, .unset] [(.ref am626)])) _
      exact tl58_460 _ _ _ _ ⟨_, _, _, Xr626, rfl, hSr626, (Nat.le_refl _), hZr626, hownr626, CR630, O627, KP628, Zs629, N626⟩ B626
    · refine own_back (fun t k => XS.ifNo X0.here hx rfl (hb hby at_44) rfl (Jvm.Free.XT.i0_eq_f hc44_625) k) ?_
      show OwnGo p e below (s₁.setTop (mkF m 47 #[.val (.int p1), .val (.int p2), .val (.int p3), .val (.int p4), .val (.int p5), .val (.int (p5 &&& (3 : Int32))), .val (.int (1 : Int32)), .val .null, .unset, .unset, .unset, .unset, .unset] [])) _
      refine own_back (fun t k => XS.iloadN X0.here hx rfl (hb hby at_47) rfl k) ?_
      show OwnGo p e below (s₁.setTop (mkF m 48 #[.val (.int p1), .val (.int p2), .val (.int p3), .val (.int p4), .val (.int p5), .val (.int (p5 &&& (3 : Int32))), .val (.int (1 : Int32)), .val .null, .unset, .unset, .unset, .unset, .unset] [(.int p1)])) _
      obtain ⟨_, _, ⟨T631, L631, k631, n631⟩, -, X631, hSn631, hgr631, ⟨Lc631, hQ631, l631, y631, z631, CRn631⟩, st631⟩ := callSS X0 hx (y := (⟨"com/example/lease/lease/cli/OptionValuesOneOfPinLaw", "mk", "(I)Ljava/lang/String;"⟩ : MethodName)) hown (mvT hZ (hw _ (List.mem_of_getElem? (i := 0) rfl))) (mvT hZ (hw _ (List.mem_of_getElem? (i := 1) rfl))) (mvT hZ (hw _ (List.mem_of_getElem? (i := 2) rfl))) (mvT hZ (hw _ (List.mem_of_getElem? (i := 3) rfl))) (by decide) (own_backH (W := 0) (rm_mk l Z a0 hw [] p1 cz h0 n0 Z0 OL SC hcz) hZ (hw _ (List.mem_of_getElem? (i := 3) rfl)) (hw _ (List.mem_of_getElem? (i := 2) rfl)) (by decide) (by decide) hEL CR0.1 sf0 all0) (g := (mkF m 48 #[.val (.int p1), .val (.int p2), .val (.int p3), .val (.int p4), .val (.int p5), .val (.int (p5 &&& (3 : Int32))), .val (.int (1 : Int32)), .val .null, .unset, .unset, .unset, .unset, .unset] [(.int p1)])) rfl (by rw [hml]; rfl) (argsL := [(.int p1)]) (rest := []) (lenOf lw_pd1 rfl) rfl (by show 2 * 0 + _ ≤ _; exact Nat.le_of_eq rfl) (hb hby at_48) (fun _ _ => ⟨rfl, e0, Nat.le_of_ble_eq_true rfl, Nat.le_of_ble_eq_true rfl⟩)
      dsimp only [Pt.U, Pt.locs, Pt.cells, Pt.slots] at X631 l631 y631 z631 st631 hQ631 hSn631 hgr631 CRn631
      subst l631 y631 z631
      obtain ⟨Xr631, hSr631, hZr631, hownr631⟩ := rebS hS0 (own_hle e0 hk0) X631 hSn631 hgr631 hZ hown
      obtain ⟨am631, rfl, N631q, E631, B631⟩ := hQ631
      refine own_seq st631 ?_
      have N631 := Fr.app N0 N631q
      have O632 := OL.ext E631
      have KP633 := KP0.ext E631
      have Zs634 := Nat.le_trans Z0 E631.1
      have CR635 := CR0.trans CRn631
      show OwnGo p e below (T631.setTop (mkF m 51 #[.val (.int p1), .val (.int p2), .val (.int p3), .val (.int p4), .val (.int p5), .val (.int (p5 &&& (3 : Int32))), .val (.int (1 : Int32)), .val .null, .unset, .unset, .unset, .unset, .unset] [(.ref am631)])) _
      refine own_back (fun t k => XS.goto Xr631.here hx rfl (pc0 := 51) (pc' := 58) rfl (hb hby at_51) (by decide) (by decide) k) ?_
      show OwnGo p e below (T631.setTop (mkF m 58 #[.val (.int p1), .val (.int p2), .val (.int p3), .val (.int p4), .val (.int p5), .val (.int (p5 &&& (3 : Int32))), .val (.int (1 : Int32)), .val .null, .unset, .unset, .unset, .unset, .unset] [(.ref am631)])) _
      exact tl58_460 _ _ _ _ ⟨_, _, _, Xr631, rfl, hSr631, (Nat.le_refl _), hZr631, hownr631, CR635, O632, KP633, Zs634, N631⟩ B631
  · refine own_back (fun t k => XS.ifYes X0.here hx rfl (pc0 := 13) (pc' := 20) rfl (hb hby at_13) rfl (Jvm.Free.XT.i0_ne_t hc13_459) (by decide) (by decide) k) ?_
    show OwnGo p e below (s₁.setTop (mkF m 20 #[.val (.int p1), .val (.int p2), .val (.int p3), .val (.int p4), .val (.int p5), .val (.int (p5 &&& (3 : Int32))), .unset, .unset, .unset, .unset, .unset, .unset, .unset] [])) _
    refine own_back (fun t k => XS.iconst X0.here hx rfl (hb hby at_20) k) ?_
    show OwnGo p e below (s₁.setTop (mkF m 21 #[.val (.int p1), .val (.int p2), .val (.int p3), .val (.int p4), .val (.int p5), .val (.int (p5 &&& (3 : Int32))), .unset, .unset, .unset, .unset, .unset, .unset, .unset] [(.int (0 : Int32))])) _
    refine own_back (fun t k => XS.istore X0.here hx rfl (hb hby at_21) rfl (l' := #[.val (.int p1), .val (.int p2), .val (.int p3), .val (.int p4), .val (.int p5), .val (.int (p5 &&& (3 : Int32))), .val (.int (0 : Int32)), .unset, .unset, .unset, .unset, .unset, .unset]) rfl k) ?_
    show OwnGo p e below (s₁.setTop (mkF m 23 #[.val (.int p1), .val (.int p2), .val (.int p3), .val (.int p4), .val (.int p5), .val (.int (p5 &&& (3 : Int32))), .val (.int (0 : Int32)), .unset, .unset, .unset, .unset, .unset, .unset] [])) _
    refine own_back (fun t k => XS.iload X0.here hx rfl (hb hby at_23) rfl k) ?_
    show OwnGo p e below (s₁.setTop (mkF m 25 #[.val (.int p1), .val (.int p2), .val (.int p3), .val (.int p4), .val (.int p5), .val (.int (p5 &&& (3 : Int32))), .val (.int (0 : Int32)), .unset, .unset, .unset, .unset, .unset, .unset] [(.int (0 : Int32))])) _
    refine own_back (fun t k => XS.ifYes X0.here hx rfl (pc0 := 25) (pc' := 32) rfl (hb hby at_25) rfl (Jvm.Free.XT.i0_eq_t (by decide)) (by decide) (by decide) k) ?_
    show OwnGo p e below (s₁.setTop (mkF m 32 #[.val (.int p1), .val (.int p2), .val (.int p3), .val (.int p4), .val (.int p5), .val (.int (p5 &&& (3 : Int32))), .val (.int (0 : Int32)), .unset, .unset, .unset, .unset, .unset, .unset] [])) _
    refine own_back (fun t k => XS.iloadN X0.here hx rfl (hb hby at_32) rfl k) ?_
    show OwnGo p e below (s₁.setTop (mkF m 33 #[.val (.int p1), .val (.int p2), .val (.int p3), .val (.int p4), .val (.int p5), .val (.int (p5 &&& (3 : Int32))), .val (.int (0 : Int32)), .unset, .unset, .unset, .unset, .unset, .unset] [(.int p1)])) _
    obtain ⟨_, _, ⟨T636, L636, k636, n636⟩, -, X636, hSn636, hgr636, ⟨Lc636, hQ636, l636, y636, z636, CRn636⟩, st636⟩ := callSS X0 hx (y := (⟨"com/example/lease/lease/cli/OptionValuesOneOfPinLaw", "mk", "(I)Ljava/lang/String;"⟩ : MethodName)) hown (mvT hZ (hw _ (List.mem_of_getElem? (i := 0) rfl))) (mvT hZ (hw _ (List.mem_of_getElem? (i := 1) rfl))) (mvT hZ (hw _ (List.mem_of_getElem? (i := 2) rfl))) (mvT hZ (hw _ (List.mem_of_getElem? (i := 3) rfl))) (by decide) (own_backH (W := 0) (rm_mk l Z a0 hw [] p1 cz h0 n0 Z0 OL SC hcz) hZ (hw _ (List.mem_of_getElem? (i := 3) rfl)) (hw _ (List.mem_of_getElem? (i := 2) rfl)) (by decide) (by decide) hEL CR0.1 sf0 all0) (g := (mkF m 33 #[.val (.int p1), .val (.int p2), .val (.int p3), .val (.int p4), .val (.int p5), .val (.int (p5 &&& (3 : Int32))), .val (.int (0 : Int32)), .unset, .unset, .unset, .unset, .unset, .unset] [(.int p1)])) rfl (by rw [hml]; rfl) (argsL := [(.int p1)]) (rest := []) (lenOf lw_pd1 rfl) rfl (by show 2 * 0 + _ ≤ _; exact Nat.le_of_eq rfl) (hb hby at_33) (fun _ _ => ⟨rfl, e0, Nat.le_of_ble_eq_true rfl, Nat.le_of_ble_eq_true rfl⟩)
    dsimp only [Pt.U, Pt.locs, Pt.cells, Pt.slots] at X636 l636 y636 z636 st636 hQ636 hSn636 hgr636 CRn636
    subst l636 y636 z636
    obtain ⟨Xr636, hSr636, hZr636, hownr636⟩ := rebS hS0 (own_hle e0 hk0) X636 hSn636 hgr636 hZ hown
    obtain ⟨am636, rfl, N636q, E636, B636⟩ := hQ636
    refine own_seq st636 ?_
    have N636 := Fr.app N0 N636q
    have O637 := OL.ext E636
    have KP638 := KP0.ext E636
    have Zs639 := Nat.le_trans Z0 E636.1
    have CR640 := CR0.trans CRn636
    show OwnGo p e below (T636.setTop (mkF m 36 #[.val (.int p1), .val (.int p2), .val (.int p3), .val (.int p4), .val (.int p5), .val (.int (p5 &&& (3 : Int32))), .val (.int (0 : Int32)), .unset, .unset, .unset, .unset, .unset, .unset] [(.ref am636)])) _
    refine own_back (fun t k => XS.astore Xr636.here hx rfl (hb hby at_36) rfl rfl (l' := #[.val (.int p1), .val (.int p2), .val (.int p3), .val (.int p4), .val (.int p5), .val (.int (p5 &&& (3 : Int32))), .val (.int (0 : Int32)), .val (.ref am636), .unset, .unset, .unset, .unset, .unset]) rfl k) ?_
    show OwnGo p e below (T636.setTop (mkF m 38 #[.val (.int p1), .val (.int p2), .val (.int p3), .val (.int p4), .val (.int p5), .val (.int (p5 &&& (3 : Int32))), .val (.int (0 : Int32)), .val (.ref am636), .unset, .unset, .unset, .unset, .unset] [])) _
    refine own_back (fun t k => XS.iload Xr636.here hx rfl (hb hby at_38) rfl k) ?_
    show OwnGo p e below (T636.setTop (mkF m 40 #[.val (.int p1), .val (.int p2), .val (.int p3), .val (.int p4), .val (.int p5), .val (.int (p5 &&& (3 : Int32))), .val (.int (0 : Int32)), .val (.ref am636), .unset, .unset, .unset, .unset, .unset] [(.int p5)])) _
    refine own_back (fun t k => XS.iconst Xr636.here hx rfl (hb hby at_40) k) ?_
    show OwnGo p e below (T636.setTop (mkF m 41 #[.val (.int p1), .val (.int p2), .val (.int p3), .val (.int p4), .val (.int p5), .val (.int (p5 &&& (3 : Int32))), .val (.int (0 : Int32)), .val (.ref am636), .unset, .unset, .unset, .unset, .unset] [(.int (2 : Int32)), (.int p5)])) _
    refine own_back (fun t k => XS.iushr Xr636.here hx rfl (hb hby at_41) rfl k) ?_
    show OwnGo p e below (T636.setTop (mkF m 42 #[.val (.int p1), .val (.int p2), .val (.int p3), .val (.int p4), .val (.int p5), .val (.int (p5 &&& (3 : Int32))), .val (.int (0 : Int32)), .val (.ref am636), .unset, .unset, .unset, .unset, .unset] [(.int ((p5.toUInt32 >>> ((2 : Int32) &&& 31).toUInt32).toInt32))])) _
    refine own_back (fun t k => XS.iconst Xr636.here hx rfl (hb hby at_42) k) ?_
    show OwnGo p e below (T636.setTop (mkF m 43 #[.val (.int p1), .val (.int p2), .val (.int p3), .val (.int p4), .val (.int p5), .val (.int (p5 &&& (3 : Int32))), .val (.int (0 : Int32)), .val (.ref am636), .unset, .unset, .unset, .unset, .unset] [(.int (1 : Int32)), (.int ((p5.toUInt32 >>> ((2 : Int32) &&& 31).toUInt32).toInt32))])) _
    refine own_back (fun t k => XS.iand Xr636.here hx rfl (hb hby at_43) rfl k) ?_
    show OwnGo p e below (T636.setTop (mkF m 44 #[.val (.int p1), .val (.int p2), .val (.int p3), .val (.int p4), .val (.int p5), .val (.int (p5 &&& (3 : Int32))), .val (.int (0 : Int32)), .val (.ref am636), .unset, .unset, .unset, .unset, .unset] [(.int (((p5.toUInt32 >>> ((2 : Int32) &&& 31).toUInt32).toInt32) &&& (1 : Int32)))])) _
    have tl58_641 : ∀ (Tj641 : State) (hj641 : Heap) (s0 : Addr) (u0 : List Int32), OwnSt p l e room_1 s m #[(.int p1), (.int p2), (.int p3), (.int p4), (.int p5)] below meth c Z own_EL "com/example/lease/lease/cli/OptionValuesOneOfPinLaw" n0 h0 [] Tj641 hj641 12 24 → OwnStr Z hj641 am636 (own_mk p1) → OwnStr Z hj641 s0 u0 → OwnGo p e below (Tj641.setTop (mkF m 58 #[.val (.int p1), .val (.int p2), .val (.int p3), .val (.int p4), .val (.int p5), .val (.int (p5 &&& (3 : Int32))), .val (.int (0 : Int32)), .val (.ref am636), .unset, .unset, .unset, .unset, .unset] [(.ref s0)])) (OwnEndW Z own_EL s (fun v h L => v = some (.int 1) ∧ Fr n0 L) room_1.cells room_1.slots) := by
      intro Tj641 hj641 s0 u0 HS641 hs641_0 hs641_1
      obtain ⟨vj641, kj641, Lj641, Xj641, ej641, hSj641, hkj641, hZj641, hownj641, CRj641, Oj641, KPj641, Zj641, Nj641⟩ := HS641
      show OwnGo p e below (Tj641.setTop (mkF m 58 #[.val (.int p1), .val (.int p2), .val (.int p3), .val (.int p4), .val (.int p5), .val (.int (p5 &&& (3 : Int32))), .val (.int (0 : Int32)), .val (.ref am636), .unset, .unset, .unset, .unset, .unset] [(.ref s0)])) _
      refine own_back (fun t k => XS.astore Xj641.here hx rfl (hb hby at_58) rfl rfl (l' := #[.val (.int p1), .val (.int p2), .val (.int p3), .val (.int p4), .val (.int p5), .val (.int (p5 &&& (3 : Int32))), .val (.int (0 : Int32)), .val (.ref am636), .val (.ref s0), .unset, .unset, .unset, .unset]) rfl k) ?_
      show OwnGo p e below (Tj641.setTop (mkF m 60 #[.val (.int p1), .val (.int p2), .val (.int p3), .val (.int p4), .val (.int p5), .val (.int (p5 &&& (3 : Int32))), .val (.int (0 : Int32)), .val (.ref am636), .val (.ref s0), .unset, .unset, .unset, .unset] [])) _
      refine own_back (fun t k => XS.iload Xj641.here hx rfl (hb hby at_60) rfl k) ?_
      show OwnGo p e below (Tj641.setTop (mkF m 62 #[.val (.int p1), .val (.int p2), .val (.int p3), .val (.int p4), .val (.int p5), .val (.int (p5 &&& (3 : Int32))), .val (.int (0 : Int32)), .val (.ref am636), .val (.ref s0), .unset, .unset, .unset, .unset] [(.int p5)])) _
      refine own_back (fun t k => XS.iconst Xj641.here hx rfl (hb hby at_62) k) ?_
      show OwnGo p e below (Tj641.setTop (mkF m 63 #[.val (.int p1), .val (.int p2), .val (.int p3), .val (.int p4), .val (.int p5), .val (.int (p5 &&& (3 : Int32))), .val (.int (0 : Int32)), .val (.ref am636), .val (.ref s0), .unset, .unset, .unset, .unset] [(.int (3 : Int32)), (.int p5)])) _
      refine own_back (fun t k => XS.iushr Xj641.here hx rfl (hb hby at_63) rfl k) ?_
      show OwnGo p e below (Tj641.setTop (mkF m 64 #[.val (.int p1), .val (.int p2), .val (.int p3), .val (.int p4), .val (.int p5), .val (.int (p5 &&& (3 : Int32))), .val (.int (0 : Int32)), .val (.ref am636), .val (.ref s0), .unset, .unset, .unset, .unset] [(.int ((p5.toUInt32 >>> ((3 : Int32) &&& 31).toUInt32).toInt32))])) _
      refine own_back (fun t k => XS.iconst Xj641.here hx rfl (hb hby at_64) k) ?_
      show OwnGo p e below (Tj641.setTop (mkF m 65 #[.val (.int p1), .val (.int p2), .val (.int p3), .val (.int p4), .val (.int p5), .val (.int (p5 &&& (3 : Int32))), .val (.int (0 : Int32)), .val (.ref am636), .val (.ref s0), .unset, .unset, .unset, .unset] [(.int (1 : Int32)), (.int ((p5.toUInt32 >>> ((3 : Int32) &&& 31).toUInt32).toInt32))])) _
      refine own_back (fun t k => XS.iand Xj641.here hx rfl (hb hby at_65) rfl k) ?_
      show OwnGo p e below (Tj641.setTop (mkF m 66 #[.val (.int p1), .val (.int p2), .val (.int p3), .val (.int p4), .val (.int p5), .val (.int (p5 &&& (3 : Int32))), .val (.int (0 : Int32)), .val (.ref am636), .val (.ref s0), .unset, .unset, .unset, .unset] [(.int (((p5.toUInt32 >>> ((3 : Int32) &&& 31).toUInt32).toInt32) &&& (1 : Int32)))])) _
      have tl80_642 : ∀ (Tj642 : State) (hj642 : Heap) (s1 : Addr) (u1 : List Int32), OwnSt p l e room_1 s m #[(.int p1), (.int p2), (.int p3), (.int p4), (.int p5)] below meth c Z own_EL "com/example/lease/lease/cli/OptionValuesOneOfPinLaw" n0 h0 [] Tj642 hj642 18 36 → OwnStr Z hj642 am636 (own_mk p1) → OwnStr Z hj642 s0 u0 → OwnStr Z hj642 s1 u1 → OwnGo p e below (Tj642.setTop (mkF m 80 #[.val (.int p1), .val (.int p2), .val (.int p3), .val (.int p4), .val (.int p5), .val (.int (p5 &&& (3 : Int32))), .val (.int (0 : Int32)), .val (.ref am636), .val (.ref s0), .unset, .unset, .unset, .unset] [(.ref s1)])) (OwnEndW Z own_EL s (fun v h L => v = some (.int 1) ∧ Fr n0 L) room_1.cells room_1.slots) := by
        intro Tj642 hj642 s1 u1 HS642 hs642_0 hs642_1 hs642_2
        obtain ⟨vj642, kj642, Lj642, Xj642, ej642, hSj642, hkj642, hZj642, hownj642, CRj642, Oj642, KPj642, Zj642, Nj642⟩ := HS642
        show OwnGo p e below (Tj642.setTop (mkF m 80 #[.val (.int p1), .val (.int p2), .val (.int p3), .val (.int p4), .val (.int p5), .val (.int (p5 &&& (3 : Int32))), .val (.int (0 : Int32)), .val (.ref am636), .val (.ref s0), .unset, .unset, .unset, .unset] [(.ref s1)])) _
        refine own_back (fun t k => XS.astore Xj642.here hx rfl (hb hby at_80) rfl rfl (l' := #[.val (.int p1), .val (.int p2), .val (.int p3), .val (.int p4), .val (.int p5), .val (.int (p5 &&& (3 : Int32))), .val (.int (0 : Int32)), .val (.ref am636), .val (.ref s0), .val (.ref s1), .unset, .unset, .unset]) rfl k) ?_
        show OwnGo p e below (Tj642.setTop (mkF m 82 #[.val (.int p1), .val (.int p2), .val (.int p3), .val (.int p4), .val (.int p5), .val (.int (p5 &&& (3 : Int32))), .val (.int (0 : Int32)), .val (.ref am636), .val (.ref s0), .val (.ref s1), .unset, .unset, .unset] [])) _
        refine own_back (fun t k => XS.iload Xj642.here hx rfl (hb hby at_82) rfl k) ?_
        show OwnGo p e below (Tj642.setTop (mkF m 84 #[.val (.int p1), .val (.int p2), .val (.int p3), .val (.int p4), .val (.int p5), .val (.int (p5 &&& (3 : Int32))), .val (.int (0 : Int32)), .val (.ref am636), .val (.ref s0), .val (.ref s1), .unset, .unset, .unset] [(.int p5)])) _
        refine own_back (fun t k => XS.iconst Xj642.here hx rfl (hb hby at_84) k) ?_
        show OwnGo p e below (Tj642.setTop (mkF m 85 #[.val (.int p1), .val (.int p2), .val (.int p3), .val (.int p4), .val (.int p5), .val (.int (p5 &&& (3 : Int32))), .val (.int (0 : Int32)), .val (.ref am636), .val (.ref s0), .val (.ref s1), .unset, .unset, .unset] [(.int (4 : Int32)), (.int p5)])) _
        refine own_back (fun t k => XS.iushr Xj642.here hx rfl (hb hby at_85) rfl k) ?_
        show OwnGo p e below (Tj642.setTop (mkF m 86 #[.val (.int p1), .val (.int p2), .val (.int p3), .val (.int p4), .val (.int p5), .val (.int (p5 &&& (3 : Int32))), .val (.int (0 : Int32)), .val (.ref am636), .val (.ref s0), .val (.ref s1), .unset, .unset, .unset] [(.int ((p5.toUInt32 >>> ((4 : Int32) &&& 31).toUInt32).toInt32))])) _
        refine own_back (fun t k => XS.iconst Xj642.here hx rfl (hb hby at_86) k) ?_
        show OwnGo p e below (Tj642.setTop (mkF m 87 #[.val (.int p1), .val (.int p2), .val (.int p3), .val (.int p4), .val (.int p5), .val (.int (p5 &&& (3 : Int32))), .val (.int (0 : Int32)), .val (.ref am636), .val (.ref s0), .val (.ref s1), .unset, .unset, .unset] [(.int (1 : Int32)), (.int ((p5.toUInt32 >>> ((4 : Int32) &&& 31).toUInt32).toInt32))])) _
        refine own_back (fun t k => XS.iand Xj642.here hx rfl (hb hby at_87) rfl k) ?_
        show OwnGo p e below (Tj642.setTop (mkF m 88 #[.val (.int p1), .val (.int p2), .val (.int p3), .val (.int p4), .val (.int p5), .val (.int (p5 &&& (3 : Int32))), .val (.int (0 : Int32)), .val (.ref am636), .val (.ref s0), .val (.ref s1), .unset, .unset, .unset] [(.int (((p5.toUInt32 >>> ((4 : Int32) &&& 31).toUInt32).toInt32) &&& (1 : Int32)))])) _
        have tl102_643 : ∀ (Tj643 : State) (hj643 : Heap) (s2 : Addr) (u2 : List Int32), OwnSt p l e room_1 s m #[(.int p1), (.int p2), (.int p3), (.int p4), (.int p5)] below meth c Z own_EL "com/example/lease/lease/cli/OptionValuesOneOfPinLaw" n0 h0 [] Tj643 hj643 24 48 → OwnStr Z hj643 am636 (own_mk p1) → OwnStr Z hj643 s0 u0 → OwnStr Z hj643 s1 u1 → OwnStr Z hj643 s2 u2 → OwnGo p e below (Tj643.setTop (mkF m 102 #[.val (.int p1), .val (.int p2), .val (.int p3), .val (.int p4), .val (.int p5), .val (.int (p5 &&& (3 : Int32))), .val (.int (0 : Int32)), .val (.ref am636), .val (.ref s0), .val (.ref s1), .unset, .unset, .unset] [(.ref s2)])) (OwnEndW Z own_EL s (fun v h L => v = some (.int 1) ∧ Fr n0 L) room_1.cells room_1.slots) := by
          intro Tj643 hj643 s2 u2 HS643 hs643_0 hs643_1 hs643_2 hs643_3
          obtain ⟨vj643, kj643, Lj643, Xj643, ej643, hSj643, hkj643, hZj643, hownj643, CRj643, Oj643, KPj643, Zj643, Nj643⟩ := HS643
          show OwnGo p e below (Tj643.setTop (mkF m 102 #[.val (.int p1), .val (.int p2), .val (.int p3), .val (.int p4), .val (.int p5), .val (.int (p5 &&& (3 : Int32))), .val (.int (0 : Int32)), .val (.ref am636), .val (.ref s0), .val (.ref s1), .unset, .unset, .unset] [(.ref s2)])) _
          refine own_back (fun t k => XS.astore Xj643.here hx rfl (hb hby at_102) rfl rfl (l' := #[.val (.int p1), .val (.int p2), .val (.int p3), .val (.int p4), .val (.int p5), .val (.int (p5 &&& (3 : Int32))), .val (.int (0 : Int32)), .val (.ref am636), .val (.ref s0), .val (.ref s1), .val (.ref s2), .unset, .unset]) rfl k) ?_
          show OwnGo p e below (Tj643.setTop (mkF m 104 #[.val (.int p1), .val (.int p2), .val (.int p3), .val (.int p4), .val (.int p5), .val (.int (p5 &&& (3 : Int32))), .val (.int (0 : Int32)), .val (.ref am636), .val (.ref s0), .val (.ref s1), .val (.ref s2), .unset, .unset] [])) _
          rcases own_and3 p5 with hn | hn | hn | hn
          · rw [hn]
            show OwnGo p e below (Tj643.setTop (mkF m 104 #[.val (.int p1), .val (.int p2), .val (.int p3), .val (.int p4), .val (.int p5), .val (.int (0 : Int32)), .val (.int (0 : Int32)), .val (.ref am636), .val (.ref s0), .val (.ref s1), .val (.ref s2), .unset, .unset] [])) _
            refine own_back (fun t k => XS.iload Xj643.here hx rfl (hb hby at_104) rfl k) ?_
            show OwnGo p e below (Tj643.setTop (mkF m 106 #[.val (.int p1), .val (.int p2), .val (.int p3), .val (.int p4), .val (.int p5), .val (.int (0 : Int32)), .val (.int (0 : Int32)), .val (.ref am636), .val (.ref s0), .val (.ref s1), .val (.ref s2), .unset, .unset] [(.int (0 : Int32))])) _
            obtain ⟨T644, h644, k644, X644, e644, E644, A644, O644, st644⟩ := newR Xj643 hx hZj643 hownj643 (hw _ (List.mem_of_getElem? (i := 4) rfl)) (hw _ (List.mem_of_getElem? (i := 34) rfl)) ej643 (g := (mkF m 106 #[.val (.int p1), .val (.int p2), .val (.int p3), .val (.int p4), .val (.int p5), .val (.int (0 : Int32)), .val (.int (0 : Int32)), .val (.ref am636), .val (.ref s0), .val (.ref s1), .val (.ref s2), .unset, .unset] [(.int (0 : Int32))])) rfl (hb hby at_106) rfl (by decide) (cap := 0) (by decide) (by decide) (Nat.le_of_ble_eq_true rfl) (Nat.le_of_ble_eq_true rfl)
            obtain ⟨b644, g644⟩ : ∃ z, z = hj643.size := ⟨_, rfl⟩
            have ge645 : n0 ≤ b644 := Nat.le_trans Zj643 (Nat.le_of_eq g644.symm)
            have sz646 : h0.size ≤ b644 := Nat.le_trans KPj643.1 (Nat.le_of_eq g644.symm)
            rw [← g644] at A644 st644
            have O647 := Oj643.ext E644
            have KP648 := KPj643.ext E644
            have Zs649 := Nat.le_trans Zj643 E644.1
            have CR650 := CRj643.trans (CHr.ext E644 CRj643.1)
            have hk651 := Nat.le_trans hkj643 E644.1
            have f652 := hs643_0.ext E644
            have f653 := hs643_1.ext E644
            have f654 := hs643_2.ext E644
            have f655 := hs643_3.ext E644
            have V656 : Arv Z h644 b644 k644 (.object "java/lang/String") (0 : Int32) [] .null := (Arv.new A644 (by decide)).pad (pad_rep [] .null 0)
            have sf657 := Safe.ext E644 CRj643.1 (Safe.new (Nat.le_of_eq g644.symm))
            refine own_back st644 ?_
            show OwnGo p e below (T644.setTop (mkF m 109 #[.val (.int p1), .val (.int p2), .val (.int p3), .val (.int p4), .val (.int p5), .val (.int (0 : Int32)), .val (.int (0 : Int32)), .val (.ref am636), .val (.ref s0), .val (.ref s1), .val (.ref s2), .unset, .unset] [(.ref b644)])) _
            refine own_back (fun t k => XS.astore X644.here hx rfl (hb hby at_109) rfl rfl (l' := #[.val (.int p1), .val (.int p2), .val (.int p3), .val (.int p4), .val (.int p5), .val (.int (0 : Int32)), .val (.int (0 : Int32)), .val (.ref am636), .val (.ref s0), .val (.ref s1), .val (.ref s2), .val (.ref b644), .unset]) rfl k) ?_
            show OwnGo p e below (T644.setTop (mkF m 111 #[.val (.int p1), .val (.int p2), .val (.int p3), .val (.int p4), .val (.int p5), .val (.int (0 : Int32)), .val (.int (0 : Int32)), .val (.ref am636), .val (.ref s0), .val (.ref s1), .val (.ref s2), .val (.ref b644), .unset] [])) _
            refine own_back (fun t k => XS.iload X644.here hx rfl (hb hby at_111) rfl k) ?_
            show OwnGo p e below (T644.setTop (mkF m 113 #[.val (.int p1), .val (.int p2), .val (.int p3), .val (.int p4), .val (.int p5), .val (.int (0 : Int32)), .val (.int (0 : Int32)), .val (.ref am636), .val (.ref s0), .val (.ref s1), .val (.ref s2), .val (.ref b644), .unset] [(.int (0 : Int32))])) _
            refine own_back (fun t k => XS.ifYes X644.here hx rfl (pc0 := 113) (pc' := 122) rfl (hb hby at_113) rfl (Jvm.Free.XT.i0_le_t (by decide)) (by decide) (by decide) k) ?_
            show OwnGo p e below (T644.setTop (mkF m 122 #[.val (.int p1), .val (.int p2), .val (.int p3), .val (.int p4), .val (.int p5), .val (.int (0 : Int32)), .val (.int (0 : Int32)), .val (.ref am636), .val (.ref s0), .val (.ref s1), .val (.ref s2), .val (.ref b644), .unset] [])) _
            refine own_back (fun t k => XS.iload X644.here hx rfl (hb hby at_122) rfl k) ?_
            show OwnGo p e below (T644.setTop (mkF m 124 #[.val (.int p1), .val (.int p2), .val (.int p3), .val (.int p4), .val (.int p5), .val (.int (0 : Int32)), .val (.int (0 : Int32)), .val (.ref am636), .val (.ref s0), .val (.ref s1), .val (.ref s2), .val (.ref b644), .unset] [(.int (0 : Int32))])) _
            refine own_back (fun t k => XS.iconst X644.here hx rfl (hb hby at_124) k) ?_
            show OwnGo p e below (T644.setTop (mkF m 125 #[.val (.int p1), .val (.int p2), .val (.int p3), .val (.int p4), .val (.int p5), .val (.int (0 : Int32)), .val (.int (0 : Int32)), .val (.ref am636), .val (.ref s0), .val (.ref s1), .val (.ref s2), .val (.ref b644), .unset] [(.int (1 : Int32)), (.int (0 : Int32))])) _
            refine own_back (fun t k => XS.icmpYes X644.here hx rfl (pc0 := 125) (pc' := 134) rfl (hb hby at_125) rfl (Jvm.Free.XT.ii_le_t (by decide)) (by decide) (by decide) k) ?_
            show OwnGo p e below (T644.setTop (mkF m 134 #[.val (.int p1), .val (.int p2), .val (.int p3), .val (.int p4), .val (.int p5), .val (.int (0 : Int32)), .val (.int (0 : Int32)), .val (.ref am636), .val (.ref s0), .val (.ref s1), .val (.ref s2), .val (.ref b644), .unset] [])) _
            refine own_back (fun t k => XS.iload X644.here hx rfl (hb hby at_134) rfl k) ?_
            show OwnGo p e below (T644.setTop (mkF m 136 #[.val (.int p1), .val (.int p2), .val (.int p3), .val (.int p4), .val (.int p5), .val (.int (0 : Int32)), .val (.int (0 : Int32)), .val (.ref am636), .val (.ref s0), .val (.ref s1), .val (.ref s2), .val (.ref b644), .unset] [(.int (0 : Int32))])) _
            refine own_back (fun t k => XS.iconst X644.here hx rfl (hb hby at_136) k) ?_
            show OwnGo p e below (T644.setTop (mkF m 137 #[.val (.int p1), .val (.int p2), .val (.int p3), .val (.int p4), .val (.int p5), .val (.int (0 : Int32)), .val (.int (0 : Int32)), .val (.ref am636), .val (.ref s0), .val (.ref s1), .val (.ref s2), .val (.ref b644), .unset] [(.int (2 : Int32)), (.int (0 : Int32))])) _
            refine own_back (fun t k => XS.icmpYes X644.here hx rfl (pc0 := 137) (pc' := 146) rfl (hb hby at_137) rfl (Jvm.Free.XT.ii_le_t (by decide)) (by decide) (by decide) k) ?_
            show OwnGo p e below (T644.setTop (mkF m 146 #[.val (.int p1), .val (.int p2), .val (.int p3), .val (.int p4), .val (.int p5), .val (.int (0 : Int32)), .val (.int (0 : Int32)), .val (.ref am636), .val (.ref s0), .val (.ref s1), .val (.ref s2), .val (.ref b644), .unset] [])) _
            refine own_back (fun t k => XS.iconst X644.here hx rfl (hb hby at_146) k) ?_
            show OwnGo p e below (T644.setTop (mkF m 147 #[.val (.int p1), .val (.int p2), .val (.int p3), .val (.int p4), .val (.int p5), .val (.int (0 : Int32)), .val (.int (0 : Int32)), .val (.ref am636), .val (.ref s0), .val (.ref s1), .val (.ref s2), .val (.ref b644), .unset] [(.int (0 : Int32))])) _
            refine own_back (fun t k => XS.istore X644.here hx rfl (hb hby at_147) rfl (l' := #[.val (.int p1), .val (.int p2), .val (.int p3), .val (.int p4), .val (.int p5), .val (.int (0 : Int32)), .val (.int (0 : Int32)), .val (.ref am636), .val (.ref s0), .val (.ref s1), .val (.ref s2), .val (.ref b644), .val (.int (0 : Int32))]) rfl k) ?_
            show OwnGo p e below (T644.setTop (mkF m 149 #[.val (.int p1), .val (.int p2), .val (.int p3), .val (.int p4), .val (.int p5), .val (.int (0 : Int32)), .val (.int (0 : Int32)), .val (.ref am636), .val (.ref s0), .val (.ref s1), .val (.ref s2), .val (.ref b644), .val (.int (0 : Int32))] [])) _
            refine own_back (fun t k => XS.iload X644.here hx rfl (hb hby at_149) rfl k) ?_
            show OwnGo p e below (T644.setTop (mkF m 151 #[.val (.int p1), .val (.int p2), .val (.int p3), .val (.int p4), .val (.int p5), .val (.int (0 : Int32)), .val (.int (0 : Int32)), .val (.ref am636), .val (.ref s0), .val (.ref s1), .val (.ref s2), .val (.ref b644), .val (.int (0 : Int32))] [(.int (0 : Int32))])) _
            refine own_back (fun t k => XS.ifNo X644.here hx rfl (hb hby at_151) rfl (Jvm.Free.XT.i0_ne_f (by decide)) k) ?_
            show OwnGo p e below (T644.setTop (mkF m 154 #[.val (.int p1), .val (.int p2), .val (.int p3), .val (.int p4), .val (.int p5), .val (.int (0 : Int32)), .val (.int (0 : Int32)), .val (.ref am636), .val (.ref s0), .val (.ref s1), .val (.ref s2), .val (.ref b644), .val (.int (0 : Int32))] [])) _
            refine own_back (fun t k => XS.iload X644.here hx rfl (hb hby at_154) rfl k) ?_
            show OwnGo p e below (T644.setTop (mkF m 156 #[.val (.int p1), .val (.int p2), .val (.int p3), .val (.int p4), .val (.int p5), .val (.int (0 : Int32)), .val (.int (0 : Int32)), .val (.ref am636), .val (.ref s0), .val (.ref s1), .val (.ref s2), .val (.ref b644), .val (.int (0 : Int32))] [(.int (0 : Int32))])) _
            refine own_back (fun t k => XS.ifYes X644.here hx rfl (pc0 := 156) (pc' := 169) rfl (hb hby at_156) rfl (Jvm.Free.XT.i0_le_t (by decide)) (by decide) (by decide) k) ?_
            show OwnGo p e below (T644.setTop (mkF m 169 #[.val (.int p1), .val (.int p2), .val (.int p3), .val (.int p4), .val (.int p5), .val (.int (0 : Int32)), .val (.int (0 : Int32)), .val (.ref am636), .val (.ref s0), .val (.ref s1), .val (.ref s2), .val (.ref b644), .val (.int (0 : Int32))] [])) _
            refine own_back (fun t k => XS.iload X644.here hx rfl (hb hby at_169) rfl k) ?_
            show OwnGo p e below (T644.setTop (mkF m 171 #[.val (.int p1), .val (.int p2), .val (.int p3), .val (.int p4), .val (.int p5), .val (.int (0 : Int32)), .val (.int (0 : Int32)), .val (.ref am636), .val (.ref s0), .val (.ref s1), .val (.ref s2), .val (.ref b644), .val (.int (0 : Int32))] [(.int (0 : Int32))])) _
            refine own_back (fun t k => XS.iconst X644.here hx rfl (hb hby at_171) k) ?_
            show OwnGo p e below (T644.setTop (mkF m 172 #[.val (.int p1), .val (.int p2), .val (.int p3), .val (.int p4), .val (.int p5), .val (.int (0 : Int32)), .val (.int (0 : Int32)), .val (.ref am636), .val (.ref s0), .val (.ref s1), .val (.ref s2), .val (.ref b644), .val (.int (0 : Int32))] [(.int (1 : Int32)), (.int (0 : Int32))])) _
            refine own_back (fun t k => XS.icmpYes X644.here hx rfl (pc0 := 172) (pc' := 185) rfl (hb hby at_172) rfl (Jvm.Free.XT.ii_le_t (by decide)) (by decide) (by decide) k) ?_
            show OwnGo p e below (T644.setTop (mkF m 185 #[.val (.int p1), .val (.int p2), .val (.int p3), .val (.int p4), .val (.int p5), .val (.int (0 : Int32)), .val (.int (0 : Int32)), .val (.ref am636), .val (.ref s0), .val (.ref s1), .val (.ref s2), .val (.ref b644), .val (.int (0 : Int32))] [])) _
            refine own_back (fun t k => XS.iload X644.here hx rfl (hb hby at_185) rfl k) ?_
            show OwnGo p e below (T644.setTop (mkF m 187 #[.val (.int p1), .val (.int p2), .val (.int p3), .val (.int p4), .val (.int p5), .val (.int (0 : Int32)), .val (.int (0 : Int32)), .val (.ref am636), .val (.ref s0), .val (.ref s1), .val (.ref s2), .val (.ref b644), .val (.int (0 : Int32))] [(.int (0 : Int32))])) _
            refine own_back (fun t k => XS.iconst X644.here hx rfl (hb hby at_187) k) ?_
            show OwnGo p e below (T644.setTop (mkF m 188 #[.val (.int p1), .val (.int p2), .val (.int p3), .val (.int p4), .val (.int p5), .val (.int (0 : Int32)), .val (.int (0 : Int32)), .val (.ref am636), .val (.ref s0), .val (.ref s1), .val (.ref s2), .val (.ref b644), .val (.int (0 : Int32))] [(.int (2 : Int32)), (.int (0 : Int32))])) _
            refine own_back (fun t k => XS.icmpYes X644.here hx rfl (pc0 := 188) (pc' := 205) rfl (hb hby at_188) rfl (Jvm.Free.XT.ii_le_t (by decide)) (by decide) (by decide) k) ?_
            show OwnGo p e below (T644.setTop (mkF m 205 #[.val (.int p1), .val (.int p2), .val (.int p3), .val (.int p4), .val (.int p5), .val (.int (0 : Int32)), .val (.int (0 : Int32)), .val (.ref am636), .val (.ref s0), .val (.ref s1), .val (.ref s2), .val (.ref b644), .val (.int (0 : Int32))] [])) _
            refine own_back (fun t k => XS.iconst X644.here hx rfl (hb hby at_205) k) ?_
            show OwnGo p e below (T644.setTop (mkF m 206 #[.val (.int p1), .val (.int p2), .val (.int p3), .val (.int p4), .val (.int p5), .val (.int (0 : Int32)), .val (.int (0 : Int32)), .val (.ref am636), .val (.ref s0), .val (.ref s1), .val (.ref s2), .val (.ref b644), .val (.int (0 : Int32))] [(.int (0 : Int32))])) _
            refine own_back (fun t k => XS.istore X644.here hx rfl (hb hby at_206) rfl (l' := #[.val (.int p1), .val (.int p2), .val (.int p3), .val (.int p4), .val (.int p5), .val (.int (0 : Int32)), .val (.int (0 : Int32)), .val (.ref am636), .val (.ref s0), .val (.ref s1), .val (.ref s2), .val (.ref b644), .val (.int (0 : Int32))]) rfl k) ?_
            show OwnGo p e below (T644.setTop (mkF m 208 #[.val (.int p1), .val (.int p2), .val (.int p3), .val (.int p4), .val (.int p5), .val (.int (0 : Int32)), .val (.int (0 : Int32)), .val (.ref am636), .val (.ref s0), .val (.ref s1), .val (.ref s2), .val (.ref b644), .val (.int (0 : Int32))] [])) _
            refine own_back (fun t k => XS.aload X644.here hx rfl (hb hby at_208) rfl rfl k) ?_
            show OwnGo p e below (T644.setTop (mkF m 210 #[.val (.int p1), .val (.int p2), .val (.int p3), .val (.int p4), .val (.int p5), .val (.int (0 : Int32)), .val (.int (0 : Int32)), .val (.ref am636), .val (.ref s0), .val (.ref s1), .val (.ref s2), .val (.ref b644), .val (.int (0 : Int32))] [(.ref am636)])) _
            refine own_back (fun t k => XS.aload X644.here hx rfl (hb hby at_210) rfl rfl k) ?_
            show OwnGo p e below (T644.setTop (mkF m 212 #[.val (.int p1), .val (.int p2), .val (.int p3), .val (.int p4), .val (.int p5), .val (.int (0 : Int32)), .val (.int (0 : Int32)), .val (.ref am636), .val (.ref s0), .val (.ref s1), .val (.ref s2), .val (.ref b644), .val (.int (0 : Int32))] [(.ref b644), (.ref am636)])) _
            obtain ⟨_, _, ⟨T658, L658, k658, n658⟩, -, X658, ⟨Lc658, hQ658, l658, y658, z658⟩, st658⟩ := Jvm.LawKit.callS X644 hx (y := (⟨"com/example/lease/lease/cli/OptionValues", "oneOf", "(Ljava/lang/String;[Ljava/lang/String;)Z"⟩ : MethodName)) hownj643 (mvT hZj643 (hw _ (List.mem_of_getElem? (i := 35) rfl))) (mvT hZj643 (hw _ (List.mem_of_getElem? (i := 36) rfl))) (mvT hZj643 (hw _ (List.mem_of_getElem? (i := 37) rfl))) (mvT hZj643 (hw _ (List.mem_of_getElem? (i := 38) rfl))) (by decide) (own_backN (W := 0) (rm_oo0 l Z a0 hw [] am636 (own_mk p1) b644 k644 cz h644 n0 Zs649 O647 f652 V656 SC hcz) hZj643 (hw _ (List.mem_of_getElem? (i := 38) rfl)) (hw _ (List.mem_of_getElem? (i := 37) rfl)) (by decide) (by decide)) (g := (mkF m 212 #[.val (.int p1), .val (.int p2), .val (.int p3), .val (.int p4), .val (.int p5), .val (.int (0 : Int32)), .val (.int (0 : Int32)), .val (.ref am636), .val (.ref s0), .val (.ref s1), .val (.ref s2), .val (.ref b644), .val (.int (0 : Int32))] [(.ref b644), (.ref am636)])) rfl (by rw [hml]; rfl) (argsL := [(.ref am636), (.ref b644)]) (rest := []) (lenOf lw_pd0 rfl) rfl (by show 2 * 0 + _ ≤ _; exact Nat.le_of_eq rfl) (hb hby at_212) (fun _ _ => ⟨rfl, e644, Nat.le_of_ble_eq_true rfl, Nat.le_of_ble_eq_true rfl⟩)
            dsimp only [Pt.U, Pt.locs, Pt.cells, Pt.slots] at X658 l658 y658 z658 st658 hQ658
            subst l658 y658 z658
            rw [if_neg (fun q => q)] at hQ658
            obtain ⟨rfl, N658q, hh658⟩ := hQ658
            refine own_back st658 ?_
            have N658 := Fr.app Nj643 N658q
            show OwnGo p e below (T658.setTop (mkF m 215 #[.val (.int p1), .val (.int p2), .val (.int p3), .val (.int p4), .val (.int p5), .val (.int (0 : Int32)), .val (.int (0 : Int32)), .val (.ref am636), .val (.ref s0), .val (.ref s1), .val (.ref s2), .val (.ref b644), .val (.int (0 : Int32))] [(.int (0 : Int32))])) _
            refine own_back (fun t k => XS.iload X658.here hx rfl (hb hby at_215) rfl k) ?_
            show OwnGo p e below (T658.setTop (mkF m 217 #[.val (.int p1), .val (.int p2), .val (.int p3), .val (.int p4), .val (.int p5), .val (.int (0 : Int32)), .val (.int (0 : Int32)), .val (.ref am636), .val (.ref s0), .val (.ref s1), .val (.ref s2), .val (.ref b644), .val (.int (0 : Int32))] [(.int (0 : Int32)), (.int (0 : Int32))])) _
            refine own_back (fun t k => XS.icmpNo X658.here hx rfl (hb hby at_217) rfl (Jvm.Free.XT.ii_ne_f (by decide)) k) ?_
            show OwnGo p e below (T658.setTop (mkF m 220 #[.val (.int p1), .val (.int p2), .val (.int p3), .val (.int p4), .val (.int p5), .val (.int (0 : Int32)), .val (.int (0 : Int32)), .val (.ref am636), .val (.ref s0), .val (.ref s1), .val (.ref s2), .val (.ref b644), .val (.int (0 : Int32))] [])) _
            refine own_back (fun t k => XS.iconst X658.here hx rfl (hb hby at_220) k) ?_
            show OwnGo p e below (T658.setTop (mkF m 221 #[.val (.int p1), .val (.int p2), .val (.int p3), .val (.int p4), .val (.int p5), .val (.int (0 : Int32)), .val (.int (0 : Int32)), .val (.ref am636), .val (.ref s0), .val (.ref s1), .val (.ref s2), .val (.ref b644), .val (.int (0 : Int32))] [(.int (1 : Int32))])) _
            refine own_back (fun t k => XS.goto X658.here hx rfl (pc0 := 221) (pc' := 225) rfl (hb hby at_221) (by decide) (by decide) k) ?_
            show OwnGo p e below (T658.setTop (mkF m 225 #[.val (.int p1), .val (.int p2), .val (.int p3), .val (.int p4), .val (.int p5), .val (.int (0 : Int32)), .val (.int (0 : Int32)), .val (.ref am636), .val (.ref s0), .val (.ref s1), .val (.ref s2), .val (.ref b644), .val (.int (0 : Int32))] [(.int (1 : Int32))])) _
            refine own_retNW X658 hx Bd.notSynchronized (t := .boolean) (z := (1 : Int32)) Bd.returns (by simp) rfl hSj643 hk651 hZj643 hEL (hh ▸ CR650) (hb hby at_225) hh658 (Nat.le_of_ble_eq_true rfl) (Nat.le_of_ble_eq_true rfl) ?_
            exact ⟨rfl, N658⟩
          · rw [hn]
            show OwnGo p e below (Tj643.setTop (mkF m 104 #[.val (.int p1), .val (.int p2), .val (.int p3), .val (.int p4), .val (.int p5), .val (.int (1 : Int32)), .val (.int (0 : Int32)), .val (.ref am636), .val (.ref s0), .val (.ref s1), .val (.ref s2), .unset, .unset] [])) _
            refine own_back (fun t k => XS.iload Xj643.here hx rfl (hb hby at_104) rfl k) ?_
            show OwnGo p e below (Tj643.setTop (mkF m 106 #[.val (.int p1), .val (.int p2), .val (.int p3), .val (.int p4), .val (.int p5), .val (.int (1 : Int32)), .val (.int (0 : Int32)), .val (.ref am636), .val (.ref s0), .val (.ref s1), .val (.ref s2), .unset, .unset] [(.int (1 : Int32))])) _
            obtain ⟨T659, h659, k659, X659, e659, E659, A659, O659, st659⟩ := newR Xj643 hx hZj643 hownj643 (hw _ (List.mem_of_getElem? (i := 4) rfl)) (hw _ (List.mem_of_getElem? (i := 34) rfl)) ej643 (g := (mkF m 106 #[.val (.int p1), .val (.int p2), .val (.int p3), .val (.int p4), .val (.int p5), .val (.int (1 : Int32)), .val (.int (0 : Int32)), .val (.ref am636), .val (.ref s0), .val (.ref s1), .val (.ref s2), .unset, .unset] [(.int (1 : Int32))])) rfl (hb hby at_106) rfl (by decide) (cap := 1) (by decide) (by decide) (Nat.le_of_ble_eq_true rfl) (Nat.le_of_ble_eq_true rfl)
            obtain ⟨b659, g659⟩ : ∃ z, z = hj643.size := ⟨_, rfl⟩
            have ge660 : n0 ≤ b659 := Nat.le_trans Zj643 (Nat.le_of_eq g659.symm)
            have sz661 : h0.size ≤ b659 := Nat.le_trans KPj643.1 (Nat.le_of_eq g659.symm)
            rw [← g659] at A659 st659
            have O662 := Oj643.ext E659
            have KP663 := KPj643.ext E659
            have Zs664 := Nat.le_trans Zj643 E659.1
            have CR665 := CRj643.trans (CHr.ext E659 CRj643.1)
            have hk666 := Nat.le_trans hkj643 E659.1
            have f667 := hs643_0.ext E659
            have f668 := hs643_1.ext E659
            have f669 := hs643_2.ext E659
            have f670 := hs643_3.ext E659
            have V671 : Arv Z h659 b659 k659 (.object "java/lang/String") (1 : Int32) [.null] .null := (Arv.new A659 (by decide)).pad (pad_rep [] .null 1)
            have sf672 := Safe.ext E659 CRj643.1 (Safe.new (Nat.le_of_eq g659.symm))
            refine own_back st659 ?_
            show OwnGo p e below (T659.setTop (mkF m 109 #[.val (.int p1), .val (.int p2), .val (.int p3), .val (.int p4), .val (.int p5), .val (.int (1 : Int32)), .val (.int (0 : Int32)), .val (.ref am636), .val (.ref s0), .val (.ref s1), .val (.ref s2), .unset, .unset] [(.ref b659)])) _
            refine own_back (fun t k => XS.astore X659.here hx rfl (hb hby at_109) rfl rfl (l' := #[.val (.int p1), .val (.int p2), .val (.int p3), .val (.int p4), .val (.int p5), .val (.int (1 : Int32)), .val (.int (0 : Int32)), .val (.ref am636), .val (.ref s0), .val (.ref s1), .val (.ref s2), .val (.ref b659), .unset]) rfl k) ?_
            show OwnGo p e below (T659.setTop (mkF m 111 #[.val (.int p1), .val (.int p2), .val (.int p3), .val (.int p4), .val (.int p5), .val (.int (1 : Int32)), .val (.int (0 : Int32)), .val (.ref am636), .val (.ref s0), .val (.ref s1), .val (.ref s2), .val (.ref b659), .unset] [])) _
            refine own_back (fun t k => XS.iload X659.here hx rfl (hb hby at_111) rfl k) ?_
            show OwnGo p e below (T659.setTop (mkF m 113 #[.val (.int p1), .val (.int p2), .val (.int p3), .val (.int p4), .val (.int p5), .val (.int (1 : Int32)), .val (.int (0 : Int32)), .val (.ref am636), .val (.ref s0), .val (.ref s1), .val (.ref s2), .val (.ref b659), .unset] [(.int (1 : Int32))])) _
            refine own_back (fun t k => XS.ifNo X659.here hx rfl (hb hby at_113) rfl (Jvm.Free.XT.i0_le_f (by decide)) k) ?_
            show OwnGo p e below (T659.setTop (mkF m 116 #[.val (.int p1), .val (.int p2), .val (.int p3), .val (.int p4), .val (.int p5), .val (.int (1 : Int32)), .val (.int (0 : Int32)), .val (.ref am636), .val (.ref s0), .val (.ref s1), .val (.ref s2), .val (.ref b659), .unset] [])) _
            refine own_back (fun t k => XS.aload X659.here hx rfl (hb hby at_116) rfl rfl k) ?_
            show OwnGo p e below (T659.setTop (mkF m 118 #[.val (.int p1), .val (.int p2), .val (.int p3), .val (.int p4), .val (.int p5), .val (.int (1 : Int32)), .val (.int (0 : Int32)), .val (.ref am636), .val (.ref s0), .val (.ref s1), .val (.ref s2), .val (.ref b659), .unset] [(.ref b659)])) _
            refine own_back (fun t k => XS.iconst X659.here hx rfl (hb hby at_118) k) ?_
            show OwnGo p e below (T659.setTop (mkF m 119 #[.val (.int p1), .val (.int p2), .val (.int p3), .val (.int p4), .val (.int p5), .val (.int (1 : Int32)), .val (.int (0 : Int32)), .val (.ref am636), .val (.ref s0), .val (.ref s1), .val (.ref s2), .val (.ref b659), .unset] [(.int (0 : Int32)), (.ref b659)])) _
            refine own_back (fun t k => XS.aload X659.here hx rfl (hb hby at_119) rfl rfl k) ?_
            show OwnGo p e below (T659.setTop (mkF m 121 #[.val (.int p1), .val (.int p2), .val (.int p3), .val (.int p4), .val (.int p5), .val (.int (1 : Int32)), .val (.int (0 : Int32)), .val (.ref am636), .val (.ref s0), .val (.ref s1), .val (.ref s2), .val (.ref b659), .unset] [(.ref s0), (.int (0 : Int32)), (.ref b659)])) _
            obtain ⟨c673, A673, q673, S673, M673, H673, U673⟩ := id V671
            obtain ⟨T674, h674, X674, e674, W674, st674⟩ := stR X659 hx hZj643 e659 A673 (j := (0 : Int32)) (inb_of S673 ⟨by decide, by decide⟩) rfl (Sto.ofV A673 q673 O659 (Ins.self f668.exa)) (g := (mkF m 121 #[.val (.int p1), .val (.int p2), .val (.int p3), .val (.int p4), .val (.int p5), .val (.int (1 : Int32)), .val (.int (0 : Int32)), .val (.ref am636), .val (.ref s0), .val (.ref s1), .val (.ref s2), .val (.ref b659), .unset] [(.ref s0), (.int (0 : Int32)), (.ref b659)])) rfl rfl (hb hby at_121)
            have O675 := O662.wr W674 ge660
            have KP676 := KP663.wr W674 (Or.inr sz661)
            have Zs677 := Nat.le_trans Zs664 (Keep.of_wr W674).1
            have CR678 := CR665.trans (CHr.wr W674 sf672 CR665.1)
            have hk679 := Nat.le_trans hk666 (Keep.of_wr W674).1
            have f680 := (OwnStr.wrA W674 V671 (by decide) (hw _ (List.mem_of_getElem? (i := 5) rfl)) f667)
            have f681 := (OwnStr.wrA W674 V671 (by decide) (hw _ (List.mem_of_getElem? (i := 5) rfl)) f668)
            have f682 := (OwnStr.wrA W674 V671 (by decide) (hw _ (List.mem_of_getElem? (i := 5) rfl)) f669)
            have f683 := (OwnStr.wrA W674 V671 (by decide) (hw _ (List.mem_of_getElem? (i := 5) rfl)) f670)
            have f684 := (Safe.wr W674 sf672 CR665.1 sf672)
            have V685 : Arv Z h674 b659 k659 (.object "java/lang/String") (1 : Int32) [(.ref s0)] .null := Arv.set A673 q673 S673 M673 H673 U673 rfl W674 0 rfl (Nat.le_of_ble_eq_true rfl)
            have N686 := Fr.snoc X674 Nj643 ge660
            refine own_back st674 ?_
            show OwnGo p e below (T674.setTop (mkF m 122 #[.val (.int p1), .val (.int p2), .val (.int p3), .val (.int p4), .val (.int p5), .val (.int (1 : Int32)), .val (.int (0 : Int32)), .val (.ref am636), .val (.ref s0), .val (.ref s1), .val (.ref s2), .val (.ref b659), .unset] [])) _
            refine own_back (fun t k => XS.iload X674.here hx rfl (hb hby at_122) rfl k) ?_
            show OwnGo p e below (T674.setTop (mkF m 124 #[.val (.int p1), .val (.int p2), .val (.int p3), .val (.int p4), .val (.int p5), .val (.int (1 : Int32)), .val (.int (0 : Int32)), .val (.ref am636), .val (.ref s0), .val (.ref s1), .val (.ref s2), .val (.ref b659), .unset] [(.int (1 : Int32))])) _
            refine own_back (fun t k => XS.iconst X674.here hx rfl (hb hby at_124) k) ?_
            show OwnGo p e below (T674.setTop (mkF m 125 #[.val (.int p1), .val (.int p2), .val (.int p3), .val (.int p4), .val (.int p5), .val (.int (1 : Int32)), .val (.int (0 : Int32)), .val (.ref am636), .val (.ref s0), .val (.ref s1), .val (.ref s2), .val (.ref b659), .unset] [(.int (1 : Int32)), (.int (1 : Int32))])) _
            refine own_back (fun t k => XS.icmpYes X674.here hx rfl (pc0 := 125) (pc' := 134) rfl (hb hby at_125) rfl (Jvm.Free.XT.ii_le_t (by decide)) (by decide) (by decide) k) ?_
            show OwnGo p e below (T674.setTop (mkF m 134 #[.val (.int p1), .val (.int p2), .val (.int p3), .val (.int p4), .val (.int p5), .val (.int (1 : Int32)), .val (.int (0 : Int32)), .val (.ref am636), .val (.ref s0), .val (.ref s1), .val (.ref s2), .val (.ref b659), .unset] [])) _
            refine own_back (fun t k => XS.iload X674.here hx rfl (hb hby at_134) rfl k) ?_
            show OwnGo p e below (T674.setTop (mkF m 136 #[.val (.int p1), .val (.int p2), .val (.int p3), .val (.int p4), .val (.int p5), .val (.int (1 : Int32)), .val (.int (0 : Int32)), .val (.ref am636), .val (.ref s0), .val (.ref s1), .val (.ref s2), .val (.ref b659), .unset] [(.int (1 : Int32))])) _
            refine own_back (fun t k => XS.iconst X674.here hx rfl (hb hby at_136) k) ?_
            show OwnGo p e below (T674.setTop (mkF m 137 #[.val (.int p1), .val (.int p2), .val (.int p3), .val (.int p4), .val (.int p5), .val (.int (1 : Int32)), .val (.int (0 : Int32)), .val (.ref am636), .val (.ref s0), .val (.ref s1), .val (.ref s2), .val (.ref b659), .unset] [(.int (2 : Int32)), (.int (1 : Int32))])) _
            refine own_back (fun t k => XS.icmpYes X674.here hx rfl (pc0 := 137) (pc' := 146) rfl (hb hby at_137) rfl (Jvm.Free.XT.ii_le_t (by decide)) (by decide) (by decide) k) ?_
            show OwnGo p e below (T674.setTop (mkF m 146 #[.val (.int p1), .val (.int p2), .val (.int p3), .val (.int p4), .val (.int p5), .val (.int (1 : Int32)), .val (.int (0 : Int32)), .val (.ref am636), .val (.ref s0), .val (.ref s1), .val (.ref s2), .val (.ref b659), .unset] [])) _
            refine own_back (fun t k => XS.iconst X674.here hx rfl (hb hby at_146) k) ?_
            show OwnGo p e below (T674.setTop (mkF m 147 #[.val (.int p1), .val (.int p2), .val (.int p3), .val (.int p4), .val (.int p5), .val (.int (1 : Int32)), .val (.int (0 : Int32)), .val (.ref am636), .val (.ref s0), .val (.ref s1), .val (.ref s2), .val (.ref b659), .unset] [(.int (0 : Int32))])) _
            refine own_back (fun t k => XS.istore X674.here hx rfl (hb hby at_147) rfl (l' := #[.val (.int p1), .val (.int p2), .val (.int p3), .val (.int p4), .val (.int p5), .val (.int (1 : Int32)), .val (.int (0 : Int32)), .val (.ref am636), .val (.ref s0), .val (.ref s1), .val (.ref s2), .val (.ref b659), .val (.int (0 : Int32))]) rfl k) ?_
            show OwnGo p e below (T674.setTop (mkF m 149 #[.val (.int p1), .val (.int p2), .val (.int p3), .val (.int p4), .val (.int p5), .val (.int (1 : Int32)), .val (.int (0 : Int32)), .val (.ref am636), .val (.ref s0), .val (.ref s1), .val (.ref s2), .val (.ref b659), .val (.int (0 : Int32))] [])) _
            refine own_back (fun t k => XS.iload X674.here hx rfl (hb hby at_149) rfl k) ?_
            show OwnGo p e below (T674.setTop (mkF m 151 #[.val (.int p1), .val (.int p2), .val (.int p3), .val (.int p4), .val (.int p5), .val (.int (1 : Int32)), .val (.int (0 : Int32)), .val (.ref am636), .val (.ref s0), .val (.ref s1), .val (.ref s2), .val (.ref b659), .val (.int (0 : Int32))] [(.int (0 : Int32))])) _
            refine own_back (fun t k => XS.ifNo X674.here hx rfl (hb hby at_151) rfl (Jvm.Free.XT.i0_ne_f (by decide)) k) ?_
            show OwnGo p e below (T674.setTop (mkF m 154 #[.val (.int p1), .val (.int p2), .val (.int p3), .val (.int p4), .val (.int p5), .val (.int (1 : Int32)), .val (.int (0 : Int32)), .val (.ref am636), .val (.ref s0), .val (.ref s1), .val (.ref s2), .val (.ref b659), .val (.int (0 : Int32))] [])) _
            refine own_back (fun t k => XS.iload X674.here hx rfl (hb hby at_154) rfl k) ?_
            show OwnGo p e below (T674.setTop (mkF m 156 #[.val (.int p1), .val (.int p2), .val (.int p3), .val (.int p4), .val (.int p5), .val (.int (1 : Int32)), .val (.int (0 : Int32)), .val (.ref am636), .val (.ref s0), .val (.ref s1), .val (.ref s2), .val (.ref b659), .val (.int (0 : Int32))] [(.int (1 : Int32))])) _
            refine own_back (fun t k => XS.ifNo X674.here hx rfl (hb hby at_156) rfl (Jvm.Free.XT.i0_le_f (by decide)) k) ?_
            show OwnGo p e below (T674.setTop (mkF m 159 #[.val (.int p1), .val (.int p2), .val (.int p3), .val (.int p4), .val (.int p5), .val (.int (1 : Int32)), .val (.int (0 : Int32)), .val (.ref am636), .val (.ref s0), .val (.ref s1), .val (.ref s2), .val (.ref b659), .val (.int (0 : Int32))] [])) _
            refine own_back (fun t k => XS.aload X674.here hx rfl (hb hby at_159) rfl rfl k) ?_
            show OwnGo p e below (T674.setTop (mkF m 161 #[.val (.int p1), .val (.int p2), .val (.int p3), .val (.int p4), .val (.int p5), .val (.int (1 : Int32)), .val (.int (0 : Int32)), .val (.ref am636), .val (.ref s0), .val (.ref s1), .val (.ref s2), .val (.ref b659), .val (.int (0 : Int32))] [(.ref am636)])) _
            refine own_back (fun t k => XS.aload X674.here hx rfl (hb hby at_161) rfl rfl k) ?_
            show OwnGo p e below (T674.setTop (mkF m 163 #[.val (.int p1), .val (.int p2), .val (.int p3), .val (.int p4), .val (.int p5), .val (.int (1 : Int32)), .val (.int (0 : Int32)), .val (.ref am636), .val (.ref s0), .val (.ref s1), .val (.ref s2), .val (.ref b659), .val (.int (0 : Int32))] [(.ref s0), (.ref am636)])) _
            by_cases hq0 : (own_mk p1) = u0
            · obtain ⟨cq687, kq687, q687a, q687b, q687c⟩ := isOf hZj643 e674 f680.exa
              obtain ⟨_, _, ⟨T687, L687, k687, n687⟩, -, X687, ⟨Lc687, hQ687, l687, y687, z687⟩, st687⟩ := X674.virtualBack hx (y := (⟨"java/lang/String", "equals", "(Ljava/lang/Object;)Z"⟩ : MethodName)) (z := (⟨"java/lang/String", "equals", "(Ljava/lang/Object;)Z"⟩ : MethodName)) hownj643 (mvT hZj643 (hw _ (List.mem_of_getElem? (i := 47) rfl))) (mvT hZj643 (hw _ (List.mem_of_getElem? (i := 40) rfl))) (notFace_of_selects (args := #[]) (mvT hZj643 (hw _ (List.mem_of_getElem? (i := 42) rfl)))) (mvT hZj643 (hw _ (List.mem_of_getElem? (i := 42) rfl))) (mvT hZj643 (hw _ (List.mem_of_getElem? (i := 41) rfl))) (by decide) (own_backN (W := 0) (rm_seq l Z a0 hw [] am636 s0 (own_mk p1) u0 cz h674 n0 Zs677 O675 f680 f681 SC hcz) hZj643 (hw _ (List.mem_of_getElem? (i := 43) rfl)) (hw _ (List.mem_of_getElem? (i := 6) rfl)) (by decide) (by decide)) q687a q687c (g := (mkF m 163 #[.val (.int p1), .val (.int p2), .val (.int p3), .val (.int p4), .val (.int p5), .val (.int (1 : Int32)), .val (.int (0 : Int32)), .val (.ref am636), .val (.ref s0), .val (.ref s1), .val (.ref s2), .val (.ref b659), .val (.int (0 : Int32))] [(.ref s0), (.ref am636)])) rfl (by rw [hml]; rfl) (Steps.refl _) (argsL := [(.ref s0)]) (rest := []) (lenOf lw_pd2 rfl) rfl (by show 2 * 0 + _ ≤ _; exact Nat.le_of_eq rfl) (hb hby at_163) (fun _ _ => ⟨rfl, e674, Nat.le_of_ble_eq_true rfl, Nat.le_of_ble_eq_true rfl⟩)
              dsimp only [Pt.U, Pt.locs, Pt.cells, Pt.slots] at X687 l687 y687 z687 st687 hQ687
              subst l687 y687 z687
              rw [if_pos hq0] at hQ687
              obtain ⟨rfl, N687q, hh687⟩ := hQ687
              refine own_seq st687 ?_
              have N687 := Fr.app N686 N687q
              show OwnGo p e below (T687.setTop (mkF m 166 #[.val (.int p1), .val (.int p2), .val (.int p3), .val (.int p4), .val (.int p5), .val (.int (1 : Int32)), .val (.int (0 : Int32)), .val (.ref am636), .val (.ref s0), .val (.ref s1), .val (.ref s2), .val (.ref b659), .val (.int (0 : Int32))] [(.int (1 : Int32))])) _
              refine own_back (fun t k => XS.ifYes X687.here hx rfl (pc0 := 166) (pc' := 201) rfl (hb hby at_166) rfl (Jvm.Free.XT.i0_ne_t (by decide)) (by decide) (by decide) k) ?_
              show OwnGo p e below (T687.setTop (mkF m 201 #[.val (.int p1), .val (.int p2), .val (.int p3), .val (.int p4), .val (.int p5), .val (.int (1 : Int32)), .val (.int (0 : Int32)), .val (.ref am636), .val (.ref s0), .val (.ref s1), .val (.ref s2), .val (.ref b659), .val (.int (0 : Int32))] [])) _
              refine own_back (fun t k => XS.iconst X687.here hx rfl (hb hby at_201) k) ?_
              show OwnGo p e below (T687.setTop (mkF m 202 #[.val (.int p1), .val (.int p2), .val (.int p3), .val (.int p4), .val (.int p5), .val (.int (1 : Int32)), .val (.int (0 : Int32)), .val (.ref am636), .val (.ref s0), .val (.ref s1), .val (.ref s2), .val (.ref b659), .val (.int (0 : Int32))] [(.int (1 : Int32))])) _
              refine own_back (fun t k => XS.goto X687.here hx rfl (pc0 := 202) (pc' := 206) rfl (hb hby at_202) (by decide) (by decide) k) ?_
              show OwnGo p e below (T687.setTop (mkF m 206 #[.val (.int p1), .val (.int p2), .val (.int p3), .val (.int p4), .val (.int p5), .val (.int (1 : Int32)), .val (.int (0 : Int32)), .val (.ref am636), .val (.ref s0), .val (.ref s1), .val (.ref s2), .val (.ref b659), .val (.int (0 : Int32))] [(.int (1 : Int32))])) _
              refine own_back (fun t k => XS.istore X687.here hx rfl (hb hby at_206) rfl (l' := #[.val (.int p1), .val (.int p2), .val (.int p3), .val (.int p4), .val (.int p5), .val (.int (1 : Int32)), .val (.int (0 : Int32)), .val (.ref am636), .val (.ref s0), .val (.ref s1), .val (.ref s2), .val (.ref b659), .val (.int (1 : Int32))]) rfl k) ?_
              show OwnGo p e below (T687.setTop (mkF m 208 #[.val (.int p1), .val (.int p2), .val (.int p3), .val (.int p4), .val (.int p5), .val (.int (1 : Int32)), .val (.int (0 : Int32)), .val (.ref am636), .val (.ref s0), .val (.ref s1), .val (.ref s2), .val (.ref b659), .val (.int (1 : Int32))] [])) _
              refine own_back (fun t k => XS.aload X687.here hx rfl (hb hby at_208) rfl rfl k) ?_
              show OwnGo p e below (T687.setTop (mkF m 210 #[.val (.int p1), .val (.int p2), .val (.int p3), .val (.int p4), .val (.int p5), .val (.int (1 : Int32)), .val (.int (0 : Int32)), .val (.ref am636), .val (.ref s0), .val (.ref s1), .val (.ref s2), .val (.ref b659), .val (.int (1 : Int32))] [(.ref am636)])) _
              refine own_back (fun t k => XS.aload X687.here hx rfl (hb hby at_210) rfl rfl k) ?_
              show OwnGo p e below (T687.setTop (mkF m 212 #[.val (.int p1), .val (.int p2), .val (.int p3), .val (.int p4), .val (.int p5), .val (.int (1 : Int32)), .val (.int (0 : Int32)), .val (.ref am636), .val (.ref s0), .val (.ref s1), .val (.ref s2), .val (.ref b659), .val (.int (1 : Int32))] [(.ref b659), (.ref am636)])) _
              obtain ⟨_, _, ⟨T688, L688, k688, n688⟩, -, X688, ⟨Lc688, hQ688, l688, y688, z688⟩, st688⟩ := Jvm.LawKit.callS X687 hx (y := (⟨"com/example/lease/lease/cli/OptionValues", "oneOf", "(Ljava/lang/String;[Ljava/lang/String;)Z"⟩ : MethodName)) hownj643 (mvT hZj643 (hw _ (List.mem_of_getElem? (i := 35) rfl))) (mvT hZj643 (hw _ (List.mem_of_getElem? (i := 36) rfl))) (mvT hZj643 (hw _ (List.mem_of_getElem? (i := 37) rfl))) (mvT hZj643 (hw _ (List.mem_of_getElem? (i := 38) rfl))) (by decide) (own_backN (W := 0) (rm_oo1 l Z a0 hw [] am636 (own_mk p1) b659 k659 s0 u0 cz h674 n0 Zs677 O675 f680 V685 f681 SC hcz) hZj643 (hw _ (List.mem_of_getElem? (i := 38) rfl)) (hw _ (List.mem_of_getElem? (i := 37) rfl)) (by decide) (by decide)) (g := (mkF m 212 #[.val (.int p1), .val (.int p2), .val (.int p3), .val (.int p4), .val (.int p5), .val (.int (1 : Int32)), .val (.int (0 : Int32)), .val (.ref am636), .val (.ref s0), .val (.ref s1), .val (.ref s2), .val (.ref b659), .val (.int (1 : Int32))] [(.ref b659), (.ref am636)])) rfl (by rw [hml]; rfl) (argsL := [(.ref am636), (.ref b659)]) (rest := []) (lenOf lw_pd0 rfl) rfl (by show 2 * 0 + _ ≤ _; exact Nat.le_of_eq rfl) (hb hby at_212) (fun _ _ => ⟨rfl, hh687, Nat.le_of_ble_eq_true rfl, Nat.le_of_ble_eq_true rfl⟩)
              dsimp only [Pt.U, Pt.locs, Pt.cells, Pt.slots] at X688 l688 y688 z688 st688 hQ688
              subst l688 y688 z688
              rw [if_pos ((hq0.symm))] at hQ688
              obtain ⟨rfl, N688q, hh688⟩ := hQ688
              refine own_back st688 ?_
              have N688 := Fr.app N687 N688q
              show OwnGo p e below (T688.setTop (mkF m 215 #[.val (.int p1), .val (.int p2), .val (.int p3), .val (.int p4), .val (.int p5), .val (.int (1 : Int32)), .val (.int (0 : Int32)), .val (.ref am636), .val (.ref s0), .val (.ref s1), .val (.ref s2), .val (.ref b659), .val (.int (1 : Int32))] [(.int (1 : Int32))])) _
              refine own_back (fun t k => XS.iload X688.here hx rfl (hb hby at_215) rfl k) ?_
              show OwnGo p e below (T688.setTop (mkF m 217 #[.val (.int p1), .val (.int p2), .val (.int p3), .val (.int p4), .val (.int p5), .val (.int (1 : Int32)), .val (.int (0 : Int32)), .val (.ref am636), .val (.ref s0), .val (.ref s1), .val (.ref s2), .val (.ref b659), .val (.int (1 : Int32))] [(.int (1 : Int32)), (.int (1 : Int32))])) _
              refine own_back (fun t k => XS.icmpNo X688.here hx rfl (hb hby at_217) rfl (Jvm.Free.XT.ii_ne_f (by decide)) k) ?_
              show OwnGo p e below (T688.setTop (mkF m 220 #[.val (.int p1), .val (.int p2), .val (.int p3), .val (.int p4), .val (.int p5), .val (.int (1 : Int32)), .val (.int (0 : Int32)), .val (.ref am636), .val (.ref s0), .val (.ref s1), .val (.ref s2), .val (.ref b659), .val (.int (1 : Int32))] [])) _
              refine own_back (fun t k => XS.iconst X688.here hx rfl (hb hby at_220) k) ?_
              show OwnGo p e below (T688.setTop (mkF m 221 #[.val (.int p1), .val (.int p2), .val (.int p3), .val (.int p4), .val (.int p5), .val (.int (1 : Int32)), .val (.int (0 : Int32)), .val (.ref am636), .val (.ref s0), .val (.ref s1), .val (.ref s2), .val (.ref b659), .val (.int (1 : Int32))] [(.int (1 : Int32))])) _
              refine own_back (fun t k => XS.goto X688.here hx rfl (pc0 := 221) (pc' := 225) rfl (hb hby at_221) (by decide) (by decide) k) ?_
              show OwnGo p e below (T688.setTop (mkF m 225 #[.val (.int p1), .val (.int p2), .val (.int p3), .val (.int p4), .val (.int p5), .val (.int (1 : Int32)), .val (.int (0 : Int32)), .val (.ref am636), .val (.ref s0), .val (.ref s1), .val (.ref s2), .val (.ref b659), .val (.int (1 : Int32))] [(.int (1 : Int32))])) _
              refine own_retNW X688 hx Bd.notSynchronized (t := .boolean) (z := (1 : Int32)) Bd.returns (by simp) rfl hSj643 hk679 hZj643 hEL (hh ▸ CR678) (hb hby at_225) hh688 (Nat.le_of_ble_eq_true rfl) (Nat.le_of_ble_eq_true rfl) ?_
              exact ⟨rfl, N688⟩
            · obtain ⟨cq689, kq689, q689a, q689b, q689c⟩ := isOf hZj643 e674 f680.exa
              obtain ⟨_, _, ⟨T689, L689, k689, n689⟩, -, X689, ⟨Lc689, hQ689, l689, y689, z689⟩, st689⟩ := X674.virtualBack hx (y := (⟨"java/lang/String", "equals", "(Ljava/lang/Object;)Z"⟩ : MethodName)) (z := (⟨"java/lang/String", "equals", "(Ljava/lang/Object;)Z"⟩ : MethodName)) hownj643 (mvT hZj643 (hw _ (List.mem_of_getElem? (i := 47) rfl))) (mvT hZj643 (hw _ (List.mem_of_getElem? (i := 40) rfl))) (notFace_of_selects (args := #[]) (mvT hZj643 (hw _ (List.mem_of_getElem? (i := 42) rfl)))) (mvT hZj643 (hw _ (List.mem_of_getElem? (i := 42) rfl))) (mvT hZj643 (hw _ (List.mem_of_getElem? (i := 41) rfl))) (by decide) (own_backN (W := 0) (rm_seq l Z a0 hw [] am636 s0 (own_mk p1) u0 cz h674 n0 Zs677 O675 f680 f681 SC hcz) hZj643 (hw _ (List.mem_of_getElem? (i := 43) rfl)) (hw _ (List.mem_of_getElem? (i := 6) rfl)) (by decide) (by decide)) q689a q689c (g := (mkF m 163 #[.val (.int p1), .val (.int p2), .val (.int p3), .val (.int p4), .val (.int p5), .val (.int (1 : Int32)), .val (.int (0 : Int32)), .val (.ref am636), .val (.ref s0), .val (.ref s1), .val (.ref s2), .val (.ref b659), .val (.int (0 : Int32))] [(.ref s0), (.ref am636)])) rfl (by rw [hml]; rfl) (Steps.refl _) (argsL := [(.ref s0)]) (rest := []) (lenOf lw_pd2 rfl) rfl (by show 2 * 0 + _ ≤ _; exact Nat.le_of_eq rfl) (hb hby at_163) (fun _ _ => ⟨rfl, e674, Nat.le_of_ble_eq_true rfl, Nat.le_of_ble_eq_true rfl⟩)
              dsimp only [Pt.U, Pt.locs, Pt.cells, Pt.slots] at X689 l689 y689 z689 st689 hQ689
              subst l689 y689 z689
              rw [if_neg hq0] at hQ689
              obtain ⟨rfl, N689q, hh689⟩ := hQ689
              refine own_seq st689 ?_
              have N689 := Fr.app N686 N689q
              show OwnGo p e below (T689.setTop (mkF m 166 #[.val (.int p1), .val (.int p2), .val (.int p3), .val (.int p4), .val (.int p5), .val (.int (1 : Int32)), .val (.int (0 : Int32)), .val (.ref am636), .val (.ref s0), .val (.ref s1), .val (.ref s2), .val (.ref b659), .val (.int (0 : Int32))] [(.int (0 : Int32))])) _
              refine own_back (fun t k => XS.ifNo X689.here hx rfl (hb hby at_166) rfl (Jvm.Free.XT.i0_ne_f (by decide)) k) ?_
              show OwnGo p e below (T689.setTop (mkF m 169 #[.val (.int p1), .val (.int p2), .val (.int p3), .val (.int p4), .val (.int p5), .val (.int (1 : Int32)), .val (.int (0 : Int32)), .val (.ref am636), .val (.ref s0), .val (.ref s1), .val (.ref s2), .val (.ref b659), .val (.int (0 : Int32))] [])) _
              refine own_back (fun t k => XS.iload X689.here hx rfl (hb hby at_169) rfl k) ?_
              show OwnGo p e below (T689.setTop (mkF m 171 #[.val (.int p1), .val (.int p2), .val (.int p3), .val (.int p4), .val (.int p5), .val (.int (1 : Int32)), .val (.int (0 : Int32)), .val (.ref am636), .val (.ref s0), .val (.ref s1), .val (.ref s2), .val (.ref b659), .val (.int (0 : Int32))] [(.int (1 : Int32))])) _
              refine own_back (fun t k => XS.iconst X689.here hx rfl (hb hby at_171) k) ?_
              show OwnGo p e below (T689.setTop (mkF m 172 #[.val (.int p1), .val (.int p2), .val (.int p3), .val (.int p4), .val (.int p5), .val (.int (1 : Int32)), .val (.int (0 : Int32)), .val (.ref am636), .val (.ref s0), .val (.ref s1), .val (.ref s2), .val (.ref b659), .val (.int (0 : Int32))] [(.int (1 : Int32)), (.int (1 : Int32))])) _
              refine own_back (fun t k => XS.icmpYes X689.here hx rfl (pc0 := 172) (pc' := 185) rfl (hb hby at_172) rfl (Jvm.Free.XT.ii_le_t (by decide)) (by decide) (by decide) k) ?_
              show OwnGo p e below (T689.setTop (mkF m 185 #[.val (.int p1), .val (.int p2), .val (.int p3), .val (.int p4), .val (.int p5), .val (.int (1 : Int32)), .val (.int (0 : Int32)), .val (.ref am636), .val (.ref s0), .val (.ref s1), .val (.ref s2), .val (.ref b659), .val (.int (0 : Int32))] [])) _
              refine own_back (fun t k => XS.iload X689.here hx rfl (hb hby at_185) rfl k) ?_
              show OwnGo p e below (T689.setTop (mkF m 187 #[.val (.int p1), .val (.int p2), .val (.int p3), .val (.int p4), .val (.int p5), .val (.int (1 : Int32)), .val (.int (0 : Int32)), .val (.ref am636), .val (.ref s0), .val (.ref s1), .val (.ref s2), .val (.ref b659), .val (.int (0 : Int32))] [(.int (1 : Int32))])) _
              refine own_back (fun t k => XS.iconst X689.here hx rfl (hb hby at_187) k) ?_
              show OwnGo p e below (T689.setTop (mkF m 188 #[.val (.int p1), .val (.int p2), .val (.int p3), .val (.int p4), .val (.int p5), .val (.int (1 : Int32)), .val (.int (0 : Int32)), .val (.ref am636), .val (.ref s0), .val (.ref s1), .val (.ref s2), .val (.ref b659), .val (.int (0 : Int32))] [(.int (2 : Int32)), (.int (1 : Int32))])) _
              refine own_back (fun t k => XS.icmpYes X689.here hx rfl (pc0 := 188) (pc' := 205) rfl (hb hby at_188) rfl (Jvm.Free.XT.ii_le_t (by decide)) (by decide) (by decide) k) ?_
              show OwnGo p e below (T689.setTop (mkF m 205 #[.val (.int p1), .val (.int p2), .val (.int p3), .val (.int p4), .val (.int p5), .val (.int (1 : Int32)), .val (.int (0 : Int32)), .val (.ref am636), .val (.ref s0), .val (.ref s1), .val (.ref s2), .val (.ref b659), .val (.int (0 : Int32))] [])) _
              refine own_back (fun t k => XS.iconst X689.here hx rfl (hb hby at_205) k) ?_
              show OwnGo p e below (T689.setTop (mkF m 206 #[.val (.int p1), .val (.int p2), .val (.int p3), .val (.int p4), .val (.int p5), .val (.int (1 : Int32)), .val (.int (0 : Int32)), .val (.ref am636), .val (.ref s0), .val (.ref s1), .val (.ref s2), .val (.ref b659), .val (.int (0 : Int32))] [(.int (0 : Int32))])) _
              refine own_back (fun t k => XS.istore X689.here hx rfl (hb hby at_206) rfl (l' := #[.val (.int p1), .val (.int p2), .val (.int p3), .val (.int p4), .val (.int p5), .val (.int (1 : Int32)), .val (.int (0 : Int32)), .val (.ref am636), .val (.ref s0), .val (.ref s1), .val (.ref s2), .val (.ref b659), .val (.int (0 : Int32))]) rfl k) ?_
              show OwnGo p e below (T689.setTop (mkF m 208 #[.val (.int p1), .val (.int p2), .val (.int p3), .val (.int p4), .val (.int p5), .val (.int (1 : Int32)), .val (.int (0 : Int32)), .val (.ref am636), .val (.ref s0), .val (.ref s1), .val (.ref s2), .val (.ref b659), .val (.int (0 : Int32))] [])) _
              refine own_back (fun t k => XS.aload X689.here hx rfl (hb hby at_208) rfl rfl k) ?_
              show OwnGo p e below (T689.setTop (mkF m 210 #[.val (.int p1), .val (.int p2), .val (.int p3), .val (.int p4), .val (.int p5), .val (.int (1 : Int32)), .val (.int (0 : Int32)), .val (.ref am636), .val (.ref s0), .val (.ref s1), .val (.ref s2), .val (.ref b659), .val (.int (0 : Int32))] [(.ref am636)])) _
              refine own_back (fun t k => XS.aload X689.here hx rfl (hb hby at_210) rfl rfl k) ?_
              show OwnGo p e below (T689.setTop (mkF m 212 #[.val (.int p1), .val (.int p2), .val (.int p3), .val (.int p4), .val (.int p5), .val (.int (1 : Int32)), .val (.int (0 : Int32)), .val (.ref am636), .val (.ref s0), .val (.ref s1), .val (.ref s2), .val (.ref b659), .val (.int (0 : Int32))] [(.ref b659), (.ref am636)])) _
              obtain ⟨_, _, ⟨T690, L690, k690, n690⟩, -, X690, ⟨Lc690, hQ690, l690, y690, z690⟩, st690⟩ := Jvm.LawKit.callS X689 hx (y := (⟨"com/example/lease/lease/cli/OptionValues", "oneOf", "(Ljava/lang/String;[Ljava/lang/String;)Z"⟩ : MethodName)) hownj643 (mvT hZj643 (hw _ (List.mem_of_getElem? (i := 35) rfl))) (mvT hZj643 (hw _ (List.mem_of_getElem? (i := 36) rfl))) (mvT hZj643 (hw _ (List.mem_of_getElem? (i := 37) rfl))) (mvT hZj643 (hw _ (List.mem_of_getElem? (i := 38) rfl))) (by decide) (own_backN (W := 0) (rm_oo1 l Z a0 hw [] am636 (own_mk p1) b659 k659 s0 u0 cz h674 n0 Zs677 O675 f680 V685 f681 SC hcz) hZj643 (hw _ (List.mem_of_getElem? (i := 38) rfl)) (hw _ (List.mem_of_getElem? (i := 37) rfl)) (by decide) (by decide)) (g := (mkF m 212 #[.val (.int p1), .val (.int p2), .val (.int p3), .val (.int p4), .val (.int p5), .val (.int (1 : Int32)), .val (.int (0 : Int32)), .val (.ref am636), .val (.ref s0), .val (.ref s1), .val (.ref s2), .val (.ref b659), .val (.int (0 : Int32))] [(.ref b659), (.ref am636)])) rfl (by rw [hml]; rfl) (argsL := [(.ref am636), (.ref b659)]) (rest := []) (lenOf lw_pd0 rfl) rfl (by show 2 * 0 + _ ≤ _; exact Nat.le_of_eq rfl) (hb hby at_212) (fun _ _ => ⟨rfl, hh689, Nat.le_of_ble_eq_true rfl, Nat.le_of_ble_eq_true rfl⟩)
              dsimp only [Pt.U, Pt.locs, Pt.cells, Pt.slots] at X690 l690 y690 z690 st690 hQ690
              subst l690 y690 z690
              rw [if_neg (by simp [Ne.symm (show _ ≠ _ from hq0)])] at hQ690
              obtain ⟨rfl, N690q, hh690⟩ := hQ690
              refine own_back st690 ?_
              have N690 := Fr.app N689 N690q
              show OwnGo p e below (T690.setTop (mkF m 215 #[.val (.int p1), .val (.int p2), .val (.int p3), .val (.int p4), .val (.int p5), .val (.int (1 : Int32)), .val (.int (0 : Int32)), .val (.ref am636), .val (.ref s0), .val (.ref s1), .val (.ref s2), .val (.ref b659), .val (.int (0 : Int32))] [(.int (0 : Int32))])) _
              refine own_back (fun t k => XS.iload X690.here hx rfl (hb hby at_215) rfl k) ?_
              show OwnGo p e below (T690.setTop (mkF m 217 #[.val (.int p1), .val (.int p2), .val (.int p3), .val (.int p4), .val (.int p5), .val (.int (1 : Int32)), .val (.int (0 : Int32)), .val (.ref am636), .val (.ref s0), .val (.ref s1), .val (.ref s2), .val (.ref b659), .val (.int (0 : Int32))] [(.int (0 : Int32)), (.int (0 : Int32))])) _
              refine own_back (fun t k => XS.icmpNo X690.here hx rfl (hb hby at_217) rfl (Jvm.Free.XT.ii_ne_f (by decide)) k) ?_
              show OwnGo p e below (T690.setTop (mkF m 220 #[.val (.int p1), .val (.int p2), .val (.int p3), .val (.int p4), .val (.int p5), .val (.int (1 : Int32)), .val (.int (0 : Int32)), .val (.ref am636), .val (.ref s0), .val (.ref s1), .val (.ref s2), .val (.ref b659), .val (.int (0 : Int32))] [])) _
              refine own_back (fun t k => XS.iconst X690.here hx rfl (hb hby at_220) k) ?_
              show OwnGo p e below (T690.setTop (mkF m 221 #[.val (.int p1), .val (.int p2), .val (.int p3), .val (.int p4), .val (.int p5), .val (.int (1 : Int32)), .val (.int (0 : Int32)), .val (.ref am636), .val (.ref s0), .val (.ref s1), .val (.ref s2), .val (.ref b659), .val (.int (0 : Int32))] [(.int (1 : Int32))])) _
              refine own_back (fun t k => XS.goto X690.here hx rfl (pc0 := 221) (pc' := 225) rfl (hb hby at_221) (by decide) (by decide) k) ?_
              show OwnGo p e below (T690.setTop (mkF m 225 #[.val (.int p1), .val (.int p2), .val (.int p3), .val (.int p4), .val (.int p5), .val (.int (1 : Int32)), .val (.int (0 : Int32)), .val (.ref am636), .val (.ref s0), .val (.ref s1), .val (.ref s2), .val (.ref b659), .val (.int (0 : Int32))] [(.int (1 : Int32))])) _
              refine own_retNW X690 hx Bd.notSynchronized (t := .boolean) (z := (1 : Int32)) Bd.returns (by simp) rfl hSj643 hk679 hZj643 hEL (hh ▸ CR678) (hb hby at_225) hh690 (Nat.le_of_ble_eq_true rfl) (Nat.le_of_ble_eq_true rfl) ?_
              exact ⟨rfl, N690⟩
          · rw [hn]
            show OwnGo p e below (Tj643.setTop (mkF m 104 #[.val (.int p1), .val (.int p2), .val (.int p3), .val (.int p4), .val (.int p5), .val (.int (2 : Int32)), .val (.int (0 : Int32)), .val (.ref am636), .val (.ref s0), .val (.ref s1), .val (.ref s2), .unset, .unset] [])) _
            refine own_back (fun t k => XS.iload Xj643.here hx rfl (hb hby at_104) rfl k) ?_
            show OwnGo p e below (Tj643.setTop (mkF m 106 #[.val (.int p1), .val (.int p2), .val (.int p3), .val (.int p4), .val (.int p5), .val (.int (2 : Int32)), .val (.int (0 : Int32)), .val (.ref am636), .val (.ref s0), .val (.ref s1), .val (.ref s2), .unset, .unset] [(.int (2 : Int32))])) _
            obtain ⟨T691, h691, k691, X691, e691, E691, A691, O691, st691⟩ := newR Xj643 hx hZj643 hownj643 (hw _ (List.mem_of_getElem? (i := 4) rfl)) (hw _ (List.mem_of_getElem? (i := 34) rfl)) ej643 (g := (mkF m 106 #[.val (.int p1), .val (.int p2), .val (.int p3), .val (.int p4), .val (.int p5), .val (.int (2 : Int32)), .val (.int (0 : Int32)), .val (.ref am636), .val (.ref s0), .val (.ref s1), .val (.ref s2), .unset, .unset] [(.int (2 : Int32))])) rfl (hb hby at_106) rfl (by decide) (cap := 2) (by decide) (by decide) (Nat.le_of_ble_eq_true rfl) (Nat.le_of_ble_eq_true rfl)
            obtain ⟨b691, g691⟩ : ∃ z, z = hj643.size := ⟨_, rfl⟩
            have ge692 : n0 ≤ b691 := Nat.le_trans Zj643 (Nat.le_of_eq g691.symm)
            have sz693 : h0.size ≤ b691 := Nat.le_trans KPj643.1 (Nat.le_of_eq g691.symm)
            rw [← g691] at A691 st691
            have O694 := Oj643.ext E691
            have KP695 := KPj643.ext E691
            have Zs696 := Nat.le_trans Zj643 E691.1
            have CR697 := CRj643.trans (CHr.ext E691 CRj643.1)
            have hk698 := Nat.le_trans hkj643 E691.1
            have f699 := hs643_0.ext E691
            have f700 := hs643_1.ext E691
            have f701 := hs643_2.ext E691
            have f702 := hs643_3.ext E691
            have V703 : Arv Z h691 b691 k691 (.object "java/lang/String") (2 : Int32) [.null, .null] .null := (Arv.new A691 (by decide)).pad (pad_rep [] .null 2)
            have sf704 := Safe.ext E691 CRj643.1 (Safe.new (Nat.le_of_eq g691.symm))
            refine own_back st691 ?_
            show OwnGo p e below (T691.setTop (mkF m 109 #[.val (.int p1), .val (.int p2), .val (.int p3), .val (.int p4), .val (.int p5), .val (.int (2 : Int32)), .val (.int (0 : Int32)), .val (.ref am636), .val (.ref s0), .val (.ref s1), .val (.ref s2), .unset, .unset] [(.ref b691)])) _
            refine own_back (fun t k => XS.astore X691.here hx rfl (hb hby at_109) rfl rfl (l' := #[.val (.int p1), .val (.int p2), .val (.int p3), .val (.int p4), .val (.int p5), .val (.int (2 : Int32)), .val (.int (0 : Int32)), .val (.ref am636), .val (.ref s0), .val (.ref s1), .val (.ref s2), .val (.ref b691), .unset]) rfl k) ?_
            show OwnGo p e below (T691.setTop (mkF m 111 #[.val (.int p1), .val (.int p2), .val (.int p3), .val (.int p4), .val (.int p5), .val (.int (2 : Int32)), .val (.int (0 : Int32)), .val (.ref am636), .val (.ref s0), .val (.ref s1), .val (.ref s2), .val (.ref b691), .unset] [])) _
            refine own_back (fun t k => XS.iload X691.here hx rfl (hb hby at_111) rfl k) ?_
            show OwnGo p e below (T691.setTop (mkF m 113 #[.val (.int p1), .val (.int p2), .val (.int p3), .val (.int p4), .val (.int p5), .val (.int (2 : Int32)), .val (.int (0 : Int32)), .val (.ref am636), .val (.ref s0), .val (.ref s1), .val (.ref s2), .val (.ref b691), .unset] [(.int (2 : Int32))])) _
            refine own_back (fun t k => XS.ifNo X691.here hx rfl (hb hby at_113) rfl (Jvm.Free.XT.i0_le_f (by decide)) k) ?_
            show OwnGo p e below (T691.setTop (mkF m 116 #[.val (.int p1), .val (.int p2), .val (.int p3), .val (.int p4), .val (.int p5), .val (.int (2 : Int32)), .val (.int (0 : Int32)), .val (.ref am636), .val (.ref s0), .val (.ref s1), .val (.ref s2), .val (.ref b691), .unset] [])) _
            refine own_back (fun t k => XS.aload X691.here hx rfl (hb hby at_116) rfl rfl k) ?_
            show OwnGo p e below (T691.setTop (mkF m 118 #[.val (.int p1), .val (.int p2), .val (.int p3), .val (.int p4), .val (.int p5), .val (.int (2 : Int32)), .val (.int (0 : Int32)), .val (.ref am636), .val (.ref s0), .val (.ref s1), .val (.ref s2), .val (.ref b691), .unset] [(.ref b691)])) _
            refine own_back (fun t k => XS.iconst X691.here hx rfl (hb hby at_118) k) ?_
            show OwnGo p e below (T691.setTop (mkF m 119 #[.val (.int p1), .val (.int p2), .val (.int p3), .val (.int p4), .val (.int p5), .val (.int (2 : Int32)), .val (.int (0 : Int32)), .val (.ref am636), .val (.ref s0), .val (.ref s1), .val (.ref s2), .val (.ref b691), .unset] [(.int (0 : Int32)), (.ref b691)])) _
            refine own_back (fun t k => XS.aload X691.here hx rfl (hb hby at_119) rfl rfl k) ?_
            show OwnGo p e below (T691.setTop (mkF m 121 #[.val (.int p1), .val (.int p2), .val (.int p3), .val (.int p4), .val (.int p5), .val (.int (2 : Int32)), .val (.int (0 : Int32)), .val (.ref am636), .val (.ref s0), .val (.ref s1), .val (.ref s2), .val (.ref b691), .unset] [(.ref s0), (.int (0 : Int32)), (.ref b691)])) _
            obtain ⟨c705, A705, q705, S705, M705, H705, U705⟩ := id V703
            obtain ⟨T706, h706, X706, e706, W706, st706⟩ := stR X691 hx hZj643 e691 A705 (j := (0 : Int32)) (inb_of S705 ⟨by decide, by decide⟩) rfl (Sto.ofV A705 q705 O691 (Ins.self f700.exa)) (g := (mkF m 121 #[.val (.int p1), .val (.int p2), .val (.int p3), .val (.int p4), .val (.int p5), .val (.int (2 : Int32)), .val (.int (0 : Int32)), .val (.ref am636), .val (.ref s0), .val (.ref s1), .val (.ref s2), .val (.ref b691), .unset] [(.ref s0), (.int (0 : Int32)), (.ref b691)])) rfl rfl (hb hby at_121)
            have O707 := O694.wr W706 ge692
            have KP708 := KP695.wr W706 (Or.inr sz693)
            have Zs709 := Nat.le_trans Zs696 (Keep.of_wr W706).1
            have CR710 := CR697.trans (CHr.wr W706 sf704 CR697.1)
            have hk711 := Nat.le_trans hk698 (Keep.of_wr W706).1
            have f712 := (OwnStr.wrA W706 V703 (by decide) (hw _ (List.mem_of_getElem? (i := 5) rfl)) f699)
            have f713 := (OwnStr.wrA W706 V703 (by decide) (hw _ (List.mem_of_getElem? (i := 5) rfl)) f700)
            have f714 := (OwnStr.wrA W706 V703 (by decide) (hw _ (List.mem_of_getElem? (i := 5) rfl)) f701)
            have f715 := (OwnStr.wrA W706 V703 (by decide) (hw _ (List.mem_of_getElem? (i := 5) rfl)) f702)
            have f716 := (Safe.wr W706 sf704 CR697.1 sf704)
            have V717 : Arv Z h706 b691 k691 (.object "java/lang/String") (2 : Int32) [(.ref s0), .null] .null := Arv.set A705 q705 S705 M705 H705 U705 rfl W706 0 rfl (Nat.le_of_ble_eq_true rfl)
            have N718 := Fr.snoc X706 Nj643 ge692
            refine own_back st706 ?_
            show OwnGo p e below (T706.setTop (mkF m 122 #[.val (.int p1), .val (.int p2), .val (.int p3), .val (.int p4), .val (.int p5), .val (.int (2 : Int32)), .val (.int (0 : Int32)), .val (.ref am636), .val (.ref s0), .val (.ref s1), .val (.ref s2), .val (.ref b691), .unset] [])) _
            refine own_back (fun t k => XS.iload X706.here hx rfl (hb hby at_122) rfl k) ?_
            show OwnGo p e below (T706.setTop (mkF m 124 #[.val (.int p1), .val (.int p2), .val (.int p3), .val (.int p4), .val (.int p5), .val (.int (2 : Int32)), .val (.int (0 : Int32)), .val (.ref am636), .val (.ref s0), .val (.ref s1), .val (.ref s2), .val (.ref b691), .unset] [(.int (2 : Int32))])) _
            refine own_back (fun t k => XS.iconst X706.here hx rfl (hb hby at_124) k) ?_
            show OwnGo p e below (T706.setTop (mkF m 125 #[.val (.int p1), .val (.int p2), .val (.int p3), .val (.int p4), .val (.int p5), .val (.int (2 : Int32)), .val (.int (0 : Int32)), .val (.ref am636), .val (.ref s0), .val (.ref s1), .val (.ref s2), .val (.ref b691), .unset] [(.int (1 : Int32)), (.int (2 : Int32))])) _
            refine own_back (fun t k => XS.icmpNo X706.here hx rfl (hb hby at_125) rfl (Jvm.Free.XT.ii_le_f (by decide)) k) ?_
            show OwnGo p e below (T706.setTop (mkF m 128 #[.val (.int p1), .val (.int p2), .val (.int p3), .val (.int p4), .val (.int p5), .val (.int (2 : Int32)), .val (.int (0 : Int32)), .val (.ref am636), .val (.ref s0), .val (.ref s1), .val (.ref s2), .val (.ref b691), .unset] [])) _
            refine own_back (fun t k => XS.aload X706.here hx rfl (hb hby at_128) rfl rfl k) ?_
            show OwnGo p e below (T706.setTop (mkF m 130 #[.val (.int p1), .val (.int p2), .val (.int p3), .val (.int p4), .val (.int p5), .val (.int (2 : Int32)), .val (.int (0 : Int32)), .val (.ref am636), .val (.ref s0), .val (.ref s1), .val (.ref s2), .val (.ref b691), .unset] [(.ref b691)])) _
            refine own_back (fun t k => XS.iconst X706.here hx rfl (hb hby at_130) k) ?_
            show OwnGo p e below (T706.setTop (mkF m 131 #[.val (.int p1), .val (.int p2), .val (.int p3), .val (.int p4), .val (.int p5), .val (.int (2 : Int32)), .val (.int (0 : Int32)), .val (.ref am636), .val (.ref s0), .val (.ref s1), .val (.ref s2), .val (.ref b691), .unset] [(.int (1 : Int32)), (.ref b691)])) _
            refine own_back (fun t k => XS.aload X706.here hx rfl (hb hby at_131) rfl rfl k) ?_
            show OwnGo p e below (T706.setTop (mkF m 133 #[.val (.int p1), .val (.int p2), .val (.int p3), .val (.int p4), .val (.int p5), .val (.int (2 : Int32)), .val (.int (0 : Int32)), .val (.ref am636), .val (.ref s0), .val (.ref s1), .val (.ref s2), .val (.ref b691), .unset] [(.ref s1), (.int (1 : Int32)), (.ref b691)])) _
            obtain ⟨c719, A719, q719, S719, M719, H719, U719⟩ := id V717
            obtain ⟨T720, h720, X720, e720, W720, st720⟩ := stR X706 hx hZj643 e706 A719 (j := (1 : Int32)) (inb_of S719 ⟨by decide, by decide⟩) rfl (Sto.ofV A719 q719 O691 (Ins.self f714.exa)) (g := (mkF m 133 #[.val (.int p1), .val (.int p2), .val (.int p3), .val (.int p4), .val (.int p5), .val (.int (2 : Int32)), .val (.int (0 : Int32)), .val (.ref am636), .val (.ref s0), .val (.ref s1), .val (.ref s2), .val (.ref b691), .unset] [(.ref s1), (.int (1 : Int32)), (.ref b691)])) rfl rfl (hb hby at_133)
            have O721 := O707.wr W720 ge692
            have KP722 := KP708.wr W720 (Or.inr sz693)
            have Zs723 := Nat.le_trans Zs709 (Keep.of_wr W720).1
            have CR724 := CR710.trans (CHr.wr W720 f716 CR710.1)
            have hk725 := Nat.le_trans hk711 (Keep.of_wr W720).1
            have f726 := (OwnStr.wrA W720 V717 (by decide) (hw _ (List.mem_of_getElem? (i := 5) rfl)) f712)
            have f727 := (OwnStr.wrA W720 V717 (by decide) (hw _ (List.mem_of_getElem? (i := 5) rfl)) f713)
            have f728 := (OwnStr.wrA W720 V717 (by decide) (hw _ (List.mem_of_getElem? (i := 5) rfl)) f714)
            have f729 := (OwnStr.wrA W720 V717 (by decide) (hw _ (List.mem_of_getElem? (i := 5) rfl)) f715)
            have f730 := (Safe.wr W720 f716 CR710.1 f716)
            have V731 : Arv Z h720 b691 k691 (.object "java/lang/String") (2 : Int32) [(.ref s0), (.ref s1)] .null := Arv.set A719 q719 S719 M719 H719 U719 rfl W720 1 rfl (Nat.le_of_ble_eq_true rfl)
            have N732 := Fr.snoc X720 N718 ge692
            refine own_back st720 ?_
            show OwnGo p e below (T720.setTop (mkF m 134 #[.val (.int p1), .val (.int p2), .val (.int p3), .val (.int p4), .val (.int p5), .val (.int (2 : Int32)), .val (.int (0 : Int32)), .val (.ref am636), .val (.ref s0), .val (.ref s1), .val (.ref s2), .val (.ref b691), .unset] [])) _
            refine own_back (fun t k => XS.iload X720.here hx rfl (hb hby at_134) rfl k) ?_
            show OwnGo p e below (T720.setTop (mkF m 136 #[.val (.int p1), .val (.int p2), .val (.int p3), .val (.int p4), .val (.int p5), .val (.int (2 : Int32)), .val (.int (0 : Int32)), .val (.ref am636), .val (.ref s0), .val (.ref s1), .val (.ref s2), .val (.ref b691), .unset] [(.int (2 : Int32))])) _
            refine own_back (fun t k => XS.iconst X720.here hx rfl (hb hby at_136) k) ?_
            show OwnGo p e below (T720.setTop (mkF m 137 #[.val (.int p1), .val (.int p2), .val (.int p3), .val (.int p4), .val (.int p5), .val (.int (2 : Int32)), .val (.int (0 : Int32)), .val (.ref am636), .val (.ref s0), .val (.ref s1), .val (.ref s2), .val (.ref b691), .unset] [(.int (2 : Int32)), (.int (2 : Int32))])) _
            refine own_back (fun t k => XS.icmpYes X720.here hx rfl (pc0 := 137) (pc' := 146) rfl (hb hby at_137) rfl (Jvm.Free.XT.ii_le_t (by decide)) (by decide) (by decide) k) ?_
            show OwnGo p e below (T720.setTop (mkF m 146 #[.val (.int p1), .val (.int p2), .val (.int p3), .val (.int p4), .val (.int p5), .val (.int (2 : Int32)), .val (.int (0 : Int32)), .val (.ref am636), .val (.ref s0), .val (.ref s1), .val (.ref s2), .val (.ref b691), .unset] [])) _
            refine own_back (fun t k => XS.iconst X720.here hx rfl (hb hby at_146) k) ?_
            show OwnGo p e below (T720.setTop (mkF m 147 #[.val (.int p1), .val (.int p2), .val (.int p3), .val (.int p4), .val (.int p5), .val (.int (2 : Int32)), .val (.int (0 : Int32)), .val (.ref am636), .val (.ref s0), .val (.ref s1), .val (.ref s2), .val (.ref b691), .unset] [(.int (0 : Int32))])) _
            refine own_back (fun t k => XS.istore X720.here hx rfl (hb hby at_147) rfl (l' := #[.val (.int p1), .val (.int p2), .val (.int p3), .val (.int p4), .val (.int p5), .val (.int (2 : Int32)), .val (.int (0 : Int32)), .val (.ref am636), .val (.ref s0), .val (.ref s1), .val (.ref s2), .val (.ref b691), .val (.int (0 : Int32))]) rfl k) ?_
            show OwnGo p e below (T720.setTop (mkF m 149 #[.val (.int p1), .val (.int p2), .val (.int p3), .val (.int p4), .val (.int p5), .val (.int (2 : Int32)), .val (.int (0 : Int32)), .val (.ref am636), .val (.ref s0), .val (.ref s1), .val (.ref s2), .val (.ref b691), .val (.int (0 : Int32))] [])) _
            refine own_back (fun t k => XS.iload X720.here hx rfl (hb hby at_149) rfl k) ?_
            show OwnGo p e below (T720.setTop (mkF m 151 #[.val (.int p1), .val (.int p2), .val (.int p3), .val (.int p4), .val (.int p5), .val (.int (2 : Int32)), .val (.int (0 : Int32)), .val (.ref am636), .val (.ref s0), .val (.ref s1), .val (.ref s2), .val (.ref b691), .val (.int (0 : Int32))] [(.int (0 : Int32))])) _
            refine own_back (fun t k => XS.ifNo X720.here hx rfl (hb hby at_151) rfl (Jvm.Free.XT.i0_ne_f (by decide)) k) ?_
            show OwnGo p e below (T720.setTop (mkF m 154 #[.val (.int p1), .val (.int p2), .val (.int p3), .val (.int p4), .val (.int p5), .val (.int (2 : Int32)), .val (.int (0 : Int32)), .val (.ref am636), .val (.ref s0), .val (.ref s1), .val (.ref s2), .val (.ref b691), .val (.int (0 : Int32))] [])) _
            refine own_back (fun t k => XS.iload X720.here hx rfl (hb hby at_154) rfl k) ?_
            show OwnGo p e below (T720.setTop (mkF m 156 #[.val (.int p1), .val (.int p2), .val (.int p3), .val (.int p4), .val (.int p5), .val (.int (2 : Int32)), .val (.int (0 : Int32)), .val (.ref am636), .val (.ref s0), .val (.ref s1), .val (.ref s2), .val (.ref b691), .val (.int (0 : Int32))] [(.int (2 : Int32))])) _
            refine own_back (fun t k => XS.ifNo X720.here hx rfl (hb hby at_156) rfl (Jvm.Free.XT.i0_le_f (by decide)) k) ?_
            show OwnGo p e below (T720.setTop (mkF m 159 #[.val (.int p1), .val (.int p2), .val (.int p3), .val (.int p4), .val (.int p5), .val (.int (2 : Int32)), .val (.int (0 : Int32)), .val (.ref am636), .val (.ref s0), .val (.ref s1), .val (.ref s2), .val (.ref b691), .val (.int (0 : Int32))] [])) _
            refine own_back (fun t k => XS.aload X720.here hx rfl (hb hby at_159) rfl rfl k) ?_
            show OwnGo p e below (T720.setTop (mkF m 161 #[.val (.int p1), .val (.int p2), .val (.int p3), .val (.int p4), .val (.int p5), .val (.int (2 : Int32)), .val (.int (0 : Int32)), .val (.ref am636), .val (.ref s0), .val (.ref s1), .val (.ref s2), .val (.ref b691), .val (.int (0 : Int32))] [(.ref am636)])) _
            refine own_back (fun t k => XS.aload X720.here hx rfl (hb hby at_161) rfl rfl k) ?_
            show OwnGo p e below (T720.setTop (mkF m 163 #[.val (.int p1), .val (.int p2), .val (.int p3), .val (.int p4), .val (.int p5), .val (.int (2 : Int32)), .val (.int (0 : Int32)), .val (.ref am636), .val (.ref s0), .val (.ref s1), .val (.ref s2), .val (.ref b691), .val (.int (0 : Int32))] [(.ref s0), (.ref am636)])) _
            by_cases hq0 : (own_mk p1) = u0
            · obtain ⟨cq733, kq733, q733a, q733b, q733c⟩ := isOf hZj643 e720 f726.exa
              obtain ⟨_, _, ⟨T733, L733, k733, n733⟩, -, X733, ⟨Lc733, hQ733, l733, y733, z733⟩, st733⟩ := X720.virtualBack hx (y := (⟨"java/lang/String", "equals", "(Ljava/lang/Object;)Z"⟩ : MethodName)) (z := (⟨"java/lang/String", "equals", "(Ljava/lang/Object;)Z"⟩ : MethodName)) hownj643 (mvT hZj643 (hw _ (List.mem_of_getElem? (i := 47) rfl))) (mvT hZj643 (hw _ (List.mem_of_getElem? (i := 40) rfl))) (notFace_of_selects (args := #[]) (mvT hZj643 (hw _ (List.mem_of_getElem? (i := 42) rfl)))) (mvT hZj643 (hw _ (List.mem_of_getElem? (i := 42) rfl))) (mvT hZj643 (hw _ (List.mem_of_getElem? (i := 41) rfl))) (by decide) (own_backN (W := 0) (rm_seq l Z a0 hw [] am636 s0 (own_mk p1) u0 cz h720 n0 Zs723 O721 f726 f727 SC hcz) hZj643 (hw _ (List.mem_of_getElem? (i := 43) rfl)) (hw _ (List.mem_of_getElem? (i := 6) rfl)) (by decide) (by decide)) q733a q733c (g := (mkF m 163 #[.val (.int p1), .val (.int p2), .val (.int p3), .val (.int p4), .val (.int p5), .val (.int (2 : Int32)), .val (.int (0 : Int32)), .val (.ref am636), .val (.ref s0), .val (.ref s1), .val (.ref s2), .val (.ref b691), .val (.int (0 : Int32))] [(.ref s0), (.ref am636)])) rfl (by rw [hml]; rfl) (Steps.refl _) (argsL := [(.ref s0)]) (rest := []) (lenOf lw_pd2 rfl) rfl (by show 2 * 0 + _ ≤ _; exact Nat.le_of_eq rfl) (hb hby at_163) (fun _ _ => ⟨rfl, e720, Nat.le_of_ble_eq_true rfl, Nat.le_of_ble_eq_true rfl⟩)
              dsimp only [Pt.U, Pt.locs, Pt.cells, Pt.slots] at X733 l733 y733 z733 st733 hQ733
              subst l733 y733 z733
              rw [if_pos hq0] at hQ733
              obtain ⟨rfl, N733q, hh733⟩ := hQ733
              refine own_seq st733 ?_
              have N733 := Fr.app N732 N733q
              show OwnGo p e below (T733.setTop (mkF m 166 #[.val (.int p1), .val (.int p2), .val (.int p3), .val (.int p4), .val (.int p5), .val (.int (2 : Int32)), .val (.int (0 : Int32)), .val (.ref am636), .val (.ref s0), .val (.ref s1), .val (.ref s2), .val (.ref b691), .val (.int (0 : Int32))] [(.int (1 : Int32))])) _
              refine own_back (fun t k => XS.ifYes X733.here hx rfl (pc0 := 166) (pc' := 201) rfl (hb hby at_166) rfl (Jvm.Free.XT.i0_ne_t (by decide)) (by decide) (by decide) k) ?_
              show OwnGo p e below (T733.setTop (mkF m 201 #[.val (.int p1), .val (.int p2), .val (.int p3), .val (.int p4), .val (.int p5), .val (.int (2 : Int32)), .val (.int (0 : Int32)), .val (.ref am636), .val (.ref s0), .val (.ref s1), .val (.ref s2), .val (.ref b691), .val (.int (0 : Int32))] [])) _
              refine own_back (fun t k => XS.iconst X733.here hx rfl (hb hby at_201) k) ?_
              show OwnGo p e below (T733.setTop (mkF m 202 #[.val (.int p1), .val (.int p2), .val (.int p3), .val (.int p4), .val (.int p5), .val (.int (2 : Int32)), .val (.int (0 : Int32)), .val (.ref am636), .val (.ref s0), .val (.ref s1), .val (.ref s2), .val (.ref b691), .val (.int (0 : Int32))] [(.int (1 : Int32))])) _
              refine own_back (fun t k => XS.goto X733.here hx rfl (pc0 := 202) (pc' := 206) rfl (hb hby at_202) (by decide) (by decide) k) ?_
              show OwnGo p e below (T733.setTop (mkF m 206 #[.val (.int p1), .val (.int p2), .val (.int p3), .val (.int p4), .val (.int p5), .val (.int (2 : Int32)), .val (.int (0 : Int32)), .val (.ref am636), .val (.ref s0), .val (.ref s1), .val (.ref s2), .val (.ref b691), .val (.int (0 : Int32))] [(.int (1 : Int32))])) _
              refine own_back (fun t k => XS.istore X733.here hx rfl (hb hby at_206) rfl (l' := #[.val (.int p1), .val (.int p2), .val (.int p3), .val (.int p4), .val (.int p5), .val (.int (2 : Int32)), .val (.int (0 : Int32)), .val (.ref am636), .val (.ref s0), .val (.ref s1), .val (.ref s2), .val (.ref b691), .val (.int (1 : Int32))]) rfl k) ?_
              show OwnGo p e below (T733.setTop (mkF m 208 #[.val (.int p1), .val (.int p2), .val (.int p3), .val (.int p4), .val (.int p5), .val (.int (2 : Int32)), .val (.int (0 : Int32)), .val (.ref am636), .val (.ref s0), .val (.ref s1), .val (.ref s2), .val (.ref b691), .val (.int (1 : Int32))] [])) _
              refine own_back (fun t k => XS.aload X733.here hx rfl (hb hby at_208) rfl rfl k) ?_
              show OwnGo p e below (T733.setTop (mkF m 210 #[.val (.int p1), .val (.int p2), .val (.int p3), .val (.int p4), .val (.int p5), .val (.int (2 : Int32)), .val (.int (0 : Int32)), .val (.ref am636), .val (.ref s0), .val (.ref s1), .val (.ref s2), .val (.ref b691), .val (.int (1 : Int32))] [(.ref am636)])) _
              refine own_back (fun t k => XS.aload X733.here hx rfl (hb hby at_210) rfl rfl k) ?_
              show OwnGo p e below (T733.setTop (mkF m 212 #[.val (.int p1), .val (.int p2), .val (.int p3), .val (.int p4), .val (.int p5), .val (.int (2 : Int32)), .val (.int (0 : Int32)), .val (.ref am636), .val (.ref s0), .val (.ref s1), .val (.ref s2), .val (.ref b691), .val (.int (1 : Int32))] [(.ref b691), (.ref am636)])) _
              obtain ⟨_, _, ⟨T734, L734, k734, n734⟩, -, X734, ⟨Lc734, hQ734, l734, y734, z734⟩, st734⟩ := Jvm.LawKit.callS X733 hx (y := (⟨"com/example/lease/lease/cli/OptionValues", "oneOf", "(Ljava/lang/String;[Ljava/lang/String;)Z"⟩ : MethodName)) hownj643 (mvT hZj643 (hw _ (List.mem_of_getElem? (i := 35) rfl))) (mvT hZj643 (hw _ (List.mem_of_getElem? (i := 36) rfl))) (mvT hZj643 (hw _ (List.mem_of_getElem? (i := 37) rfl))) (mvT hZj643 (hw _ (List.mem_of_getElem? (i := 38) rfl))) (by decide) (own_backN (W := 0) (rm_oo2 l Z a0 hw [] am636 (own_mk p1) b691 k691 s0 s1 u0 u1 cz h720 n0 Zs723 O721 f726 V731 f727 f728 SC hcz) hZj643 (hw _ (List.mem_of_getElem? (i := 38) rfl)) (hw _ (List.mem_of_getElem? (i := 37) rfl)) (by decide) (by decide)) (g := (mkF m 212 #[.val (.int p1), .val (.int p2), .val (.int p3), .val (.int p4), .val (.int p5), .val (.int (2 : Int32)), .val (.int (0 : Int32)), .val (.ref am636), .val (.ref s0), .val (.ref s1), .val (.ref s2), .val (.ref b691), .val (.int (1 : Int32))] [(.ref b691), (.ref am636)])) rfl (by rw [hml]; rfl) (argsL := [(.ref am636), (.ref b691)]) (rest := []) (lenOf lw_pd0 rfl) rfl (by show 2 * 0 + _ ≤ _; exact Nat.le_of_eq rfl) (hb hby at_212) (fun _ _ => ⟨rfl, hh733, Nat.le_of_ble_eq_true rfl, Nat.le_of_ble_eq_true rfl⟩)
              dsimp only [Pt.U, Pt.locs, Pt.cells, Pt.slots] at X734 l734 y734 z734 st734 hQ734
              subst l734 y734 z734
              rw [if_pos (Or.inl (hq0.symm))] at hQ734
              obtain ⟨rfl, N734q, hh734⟩ := hQ734
              refine own_back st734 ?_
              have N734 := Fr.app N733 N734q
              show OwnGo p e below (T734.setTop (mkF m 215 #[.val (.int p1), .val (.int p2), .val (.int p3), .val (.int p4), .val (.int p5), .val (.int (2 : Int32)), .val (.int (0 : Int32)), .val (.ref am636), .val (.ref s0), .val (.ref s1), .val (.ref s2), .val (.ref b691), .val (.int (1 : Int32))] [(.int (1 : Int32))])) _
              refine own_back (fun t k => XS.iload X734.here hx rfl (hb hby at_215) rfl k) ?_
              show OwnGo p e below (T734.setTop (mkF m 217 #[.val (.int p1), .val (.int p2), .val (.int p3), .val (.int p4), .val (.int p5), .val (.int (2 : Int32)), .val (.int (0 : Int32)), .val (.ref am636), .val (.ref s0), .val (.ref s1), .val (.ref s2), .val (.ref b691), .val (.int (1 : Int32))] [(.int (1 : Int32)), (.int (1 : Int32))])) _
              refine own_back (fun t k => XS.icmpNo X734.here hx rfl (hb hby at_217) rfl (Jvm.Free.XT.ii_ne_f (by decide)) k) ?_
              show OwnGo p e below (T734.setTop (mkF m 220 #[.val (.int p1), .val (.int p2), .val (.int p3), .val (.int p4), .val (.int p5), .val (.int (2 : Int32)), .val (.int (0 : Int32)), .val (.ref am636), .val (.ref s0), .val (.ref s1), .val (.ref s2), .val (.ref b691), .val (.int (1 : Int32))] [])) _
              refine own_back (fun t k => XS.iconst X734.here hx rfl (hb hby at_220) k) ?_
              show OwnGo p e below (T734.setTop (mkF m 221 #[.val (.int p1), .val (.int p2), .val (.int p3), .val (.int p4), .val (.int p5), .val (.int (2 : Int32)), .val (.int (0 : Int32)), .val (.ref am636), .val (.ref s0), .val (.ref s1), .val (.ref s2), .val (.ref b691), .val (.int (1 : Int32))] [(.int (1 : Int32))])) _
              refine own_back (fun t k => XS.goto X734.here hx rfl (pc0 := 221) (pc' := 225) rfl (hb hby at_221) (by decide) (by decide) k) ?_
              show OwnGo p e below (T734.setTop (mkF m 225 #[.val (.int p1), .val (.int p2), .val (.int p3), .val (.int p4), .val (.int p5), .val (.int (2 : Int32)), .val (.int (0 : Int32)), .val (.ref am636), .val (.ref s0), .val (.ref s1), .val (.ref s2), .val (.ref b691), .val (.int (1 : Int32))] [(.int (1 : Int32))])) _
              refine own_retNW X734 hx Bd.notSynchronized (t := .boolean) (z := (1 : Int32)) Bd.returns (by simp) rfl hSj643 hk725 hZj643 hEL (hh ▸ CR724) (hb hby at_225) hh734 (Nat.le_of_ble_eq_true rfl) (Nat.le_of_ble_eq_true rfl) ?_
              exact ⟨rfl, N734⟩
            · obtain ⟨cq735, kq735, q735a, q735b, q735c⟩ := isOf hZj643 e720 f726.exa
              obtain ⟨_, _, ⟨T735, L735, k735, n735⟩, -, X735, ⟨Lc735, hQ735, l735, y735, z735⟩, st735⟩ := X720.virtualBack hx (y := (⟨"java/lang/String", "equals", "(Ljava/lang/Object;)Z"⟩ : MethodName)) (z := (⟨"java/lang/String", "equals", "(Ljava/lang/Object;)Z"⟩ : MethodName)) hownj643 (mvT hZj643 (hw _ (List.mem_of_getElem? (i := 47) rfl))) (mvT hZj643 (hw _ (List.mem_of_getElem? (i := 40) rfl))) (notFace_of_selects (args := #[]) (mvT hZj643 (hw _ (List.mem_of_getElem? (i := 42) rfl)))) (mvT hZj643 (hw _ (List.mem_of_getElem? (i := 42) rfl))) (mvT hZj643 (hw _ (List.mem_of_getElem? (i := 41) rfl))) (by decide) (own_backN (W := 0) (rm_seq l Z a0 hw [] am636 s0 (own_mk p1) u0 cz h720 n0 Zs723 O721 f726 f727 SC hcz) hZj643 (hw _ (List.mem_of_getElem? (i := 43) rfl)) (hw _ (List.mem_of_getElem? (i := 6) rfl)) (by decide) (by decide)) q735a q735c (g := (mkF m 163 #[.val (.int p1), .val (.int p2), .val (.int p3), .val (.int p4), .val (.int p5), .val (.int (2 : Int32)), .val (.int (0 : Int32)), .val (.ref am636), .val (.ref s0), .val (.ref s1), .val (.ref s2), .val (.ref b691), .val (.int (0 : Int32))] [(.ref s0), (.ref am636)])) rfl (by rw [hml]; rfl) (Steps.refl _) (argsL := [(.ref s0)]) (rest := []) (lenOf lw_pd2 rfl) rfl (by show 2 * 0 + _ ≤ _; exact Nat.le_of_eq rfl) (hb hby at_163) (fun _ _ => ⟨rfl, e720, Nat.le_of_ble_eq_true rfl, Nat.le_of_ble_eq_true rfl⟩)
              dsimp only [Pt.U, Pt.locs, Pt.cells, Pt.slots] at X735 l735 y735 z735 st735 hQ735
              subst l735 y735 z735
              rw [if_neg hq0] at hQ735
              obtain ⟨rfl, N735q, hh735⟩ := hQ735
              refine own_seq st735 ?_
              have N735 := Fr.app N732 N735q
              show OwnGo p e below (T735.setTop (mkF m 166 #[.val (.int p1), .val (.int p2), .val (.int p3), .val (.int p4), .val (.int p5), .val (.int (2 : Int32)), .val (.int (0 : Int32)), .val (.ref am636), .val (.ref s0), .val (.ref s1), .val (.ref s2), .val (.ref b691), .val (.int (0 : Int32))] [(.int (0 : Int32))])) _
              refine own_back (fun t k => XS.ifNo X735.here hx rfl (hb hby at_166) rfl (Jvm.Free.XT.i0_ne_f (by decide)) k) ?_
              show OwnGo p e below (T735.setTop (mkF m 169 #[.val (.int p1), .val (.int p2), .val (.int p3), .val (.int p4), .val (.int p5), .val (.int (2 : Int32)), .val (.int (0 : Int32)), .val (.ref am636), .val (.ref s0), .val (.ref s1), .val (.ref s2), .val (.ref b691), .val (.int (0 : Int32))] [])) _
              refine own_back (fun t k => XS.iload X735.here hx rfl (hb hby at_169) rfl k) ?_
              show OwnGo p e below (T735.setTop (mkF m 171 #[.val (.int p1), .val (.int p2), .val (.int p3), .val (.int p4), .val (.int p5), .val (.int (2 : Int32)), .val (.int (0 : Int32)), .val (.ref am636), .val (.ref s0), .val (.ref s1), .val (.ref s2), .val (.ref b691), .val (.int (0 : Int32))] [(.int (2 : Int32))])) _
              refine own_back (fun t k => XS.iconst X735.here hx rfl (hb hby at_171) k) ?_
              show OwnGo p e below (T735.setTop (mkF m 172 #[.val (.int p1), .val (.int p2), .val (.int p3), .val (.int p4), .val (.int p5), .val (.int (2 : Int32)), .val (.int (0 : Int32)), .val (.ref am636), .val (.ref s0), .val (.ref s1), .val (.ref s2), .val (.ref b691), .val (.int (0 : Int32))] [(.int (1 : Int32)), (.int (2 : Int32))])) _
              refine own_back (fun t k => XS.icmpNo X735.here hx rfl (hb hby at_172) rfl (Jvm.Free.XT.ii_le_f (by decide)) k) ?_
              show OwnGo p e below (T735.setTop (mkF m 175 #[.val (.int p1), .val (.int p2), .val (.int p3), .val (.int p4), .val (.int p5), .val (.int (2 : Int32)), .val (.int (0 : Int32)), .val (.ref am636), .val (.ref s0), .val (.ref s1), .val (.ref s2), .val (.ref b691), .val (.int (0 : Int32))] [])) _
              refine own_back (fun t k => XS.aload X735.here hx rfl (hb hby at_175) rfl rfl k) ?_
              show OwnGo p e below (T735.setTop (mkF m 177 #[.val (.int p1), .val (.int p2), .val (.int p3), .val (.int p4), .val (.int p5), .val (.int (2 : Int32)), .val (.int (0 : Int32)), .val (.ref am636), .val (.ref s0), .val (.ref s1), .val (.ref s2), .val (.ref b691), .val (.int (0 : Int32))] [(.ref am636)])) _
              refine own_back (fun t k => XS.aload X735.here hx rfl (hb hby at_177) rfl rfl k) ?_
              show OwnGo p e below (T735.setTop (mkF m 179 #[.val (.int p1), .val (.int p2), .val (.int p3), .val (.int p4), .val (.int p5), .val (.int (2 : Int32)), .val (.int (0 : Int32)), .val (.ref am636), .val (.ref s0), .val (.ref s1), .val (.ref s2), .val (.ref b691), .val (.int (0 : Int32))] [(.ref s1), (.ref am636)])) _
              by_cases hq1 : (own_mk p1) = u1
              · obtain ⟨cq736, kq736, q736a, q736b, q736c⟩ := isOf hZj643 hh735 f726.exa
                obtain ⟨_, _, ⟨T736, L736, k736, n736⟩, -, X736, ⟨Lc736, hQ736, l736, y736, z736⟩, st736⟩ := X735.virtualBack hx (y := (⟨"java/lang/String", "equals", "(Ljava/lang/Object;)Z"⟩ : MethodName)) (z := (⟨"java/lang/String", "equals", "(Ljava/lang/Object;)Z"⟩ : MethodName)) hownj643 (mvT hZj643 (hw _ (List.mem_of_getElem? (i := 47) rfl))) (mvT hZj643 (hw _ (List.mem_of_getElem? (i := 40) rfl))) (notFace_of_selects (args := #[]) (mvT hZj643 (hw _ (List.mem_of_getElem? (i := 42) rfl)))) (mvT hZj643 (hw _ (List.mem_of_getElem? (i := 42) rfl))) (mvT hZj643 (hw _ (List.mem_of_getElem? (i := 41) rfl))) (by decide) (own_backN (W := 0) (rm_seq l Z a0 hw [] am636 s1 (own_mk p1) u1 cz h720 n0 Zs723 O721 f726 f728 SC hcz) hZj643 (hw _ (List.mem_of_getElem? (i := 43) rfl)) (hw _ (List.mem_of_getElem? (i := 6) rfl)) (by decide) (by decide)) q736a q736c (g := (mkF m 179 #[.val (.int p1), .val (.int p2), .val (.int p3), .val (.int p4), .val (.int p5), .val (.int (2 : Int32)), .val (.int (0 : Int32)), .val (.ref am636), .val (.ref s0), .val (.ref s1), .val (.ref s2), .val (.ref b691), .val (.int (0 : Int32))] [(.ref s1), (.ref am636)])) rfl (by rw [hml]; rfl) (Steps.refl _) (argsL := [(.ref s1)]) (rest := []) (lenOf lw_pd2 rfl) rfl (by show 2 * 0 + _ ≤ _; exact Nat.le_of_eq rfl) (hb hby at_179) (fun _ _ => ⟨rfl, hh735, Nat.le_of_ble_eq_true rfl, Nat.le_of_ble_eq_true rfl⟩)
                dsimp only [Pt.U, Pt.locs, Pt.cells, Pt.slots] at X736 l736 y736 z736 st736 hQ736
                subst l736 y736 z736
                rw [if_pos hq1] at hQ736
                obtain ⟨rfl, N736q, hh736⟩ := hQ736
                refine own_seq st736 ?_
                have N736 := Fr.app N735 N736q
                show OwnGo p e below (T736.setTop (mkF m 182 #[.val (.int p1), .val (.int p2), .val (.int p3), .val (.int p4), .val (.int p5), .val (.int (2 : Int32)), .val (.int (0 : Int32)), .val (.ref am636), .val (.ref s0), .val (.ref s1), .val (.ref s2), .val (.ref b691), .val (.int (0 : Int32))] [(.int (1 : Int32))])) _
                refine own_back (fun t k => XS.ifYes X736.here hx rfl (pc0 := 182) (pc' := 201) rfl (hb hby at_182) rfl (Jvm.Free.XT.i0_ne_t (by decide)) (by decide) (by decide) k) ?_
                show OwnGo p e below (T736.setTop (mkF m 201 #[.val (.int p1), .val (.int p2), .val (.int p3), .val (.int p4), .val (.int p5), .val (.int (2 : Int32)), .val (.int (0 : Int32)), .val (.ref am636), .val (.ref s0), .val (.ref s1), .val (.ref s2), .val (.ref b691), .val (.int (0 : Int32))] [])) _
                refine own_back (fun t k => XS.iconst X736.here hx rfl (hb hby at_201) k) ?_
                show OwnGo p e below (T736.setTop (mkF m 202 #[.val (.int p1), .val (.int p2), .val (.int p3), .val (.int p4), .val (.int p5), .val (.int (2 : Int32)), .val (.int (0 : Int32)), .val (.ref am636), .val (.ref s0), .val (.ref s1), .val (.ref s2), .val (.ref b691), .val (.int (0 : Int32))] [(.int (1 : Int32))])) _
                refine own_back (fun t k => XS.goto X736.here hx rfl (pc0 := 202) (pc' := 206) rfl (hb hby at_202) (by decide) (by decide) k) ?_
                show OwnGo p e below (T736.setTop (mkF m 206 #[.val (.int p1), .val (.int p2), .val (.int p3), .val (.int p4), .val (.int p5), .val (.int (2 : Int32)), .val (.int (0 : Int32)), .val (.ref am636), .val (.ref s0), .val (.ref s1), .val (.ref s2), .val (.ref b691), .val (.int (0 : Int32))] [(.int (1 : Int32))])) _
                refine own_back (fun t k => XS.istore X736.here hx rfl (hb hby at_206) rfl (l' := #[.val (.int p1), .val (.int p2), .val (.int p3), .val (.int p4), .val (.int p5), .val (.int (2 : Int32)), .val (.int (0 : Int32)), .val (.ref am636), .val (.ref s0), .val (.ref s1), .val (.ref s2), .val (.ref b691), .val (.int (1 : Int32))]) rfl k) ?_
                show OwnGo p e below (T736.setTop (mkF m 208 #[.val (.int p1), .val (.int p2), .val (.int p3), .val (.int p4), .val (.int p5), .val (.int (2 : Int32)), .val (.int (0 : Int32)), .val (.ref am636), .val (.ref s0), .val (.ref s1), .val (.ref s2), .val (.ref b691), .val (.int (1 : Int32))] [])) _
                refine own_back (fun t k => XS.aload X736.here hx rfl (hb hby at_208) rfl rfl k) ?_
                show OwnGo p e below (T736.setTop (mkF m 210 #[.val (.int p1), .val (.int p2), .val (.int p3), .val (.int p4), .val (.int p5), .val (.int (2 : Int32)), .val (.int (0 : Int32)), .val (.ref am636), .val (.ref s0), .val (.ref s1), .val (.ref s2), .val (.ref b691), .val (.int (1 : Int32))] [(.ref am636)])) _
                refine own_back (fun t k => XS.aload X736.here hx rfl (hb hby at_210) rfl rfl k) ?_
                show OwnGo p e below (T736.setTop (mkF m 212 #[.val (.int p1), .val (.int p2), .val (.int p3), .val (.int p4), .val (.int p5), .val (.int (2 : Int32)), .val (.int (0 : Int32)), .val (.ref am636), .val (.ref s0), .val (.ref s1), .val (.ref s2), .val (.ref b691), .val (.int (1 : Int32))] [(.ref b691), (.ref am636)])) _
                obtain ⟨_, _, ⟨T737, L737, k737, n737⟩, -, X737, ⟨Lc737, hQ737, l737, y737, z737⟩, st737⟩ := Jvm.LawKit.callS X736 hx (y := (⟨"com/example/lease/lease/cli/OptionValues", "oneOf", "(Ljava/lang/String;[Ljava/lang/String;)Z"⟩ : MethodName)) hownj643 (mvT hZj643 (hw _ (List.mem_of_getElem? (i := 35) rfl))) (mvT hZj643 (hw _ (List.mem_of_getElem? (i := 36) rfl))) (mvT hZj643 (hw _ (List.mem_of_getElem? (i := 37) rfl))) (mvT hZj643 (hw _ (List.mem_of_getElem? (i := 38) rfl))) (by decide) (own_backN (W := 0) (rm_oo2 l Z a0 hw [] am636 (own_mk p1) b691 k691 s0 s1 u0 u1 cz h720 n0 Zs723 O721 f726 V731 f727 f728 SC hcz) hZj643 (hw _ (List.mem_of_getElem? (i := 38) rfl)) (hw _ (List.mem_of_getElem? (i := 37) rfl)) (by decide) (by decide)) (g := (mkF m 212 #[.val (.int p1), .val (.int p2), .val (.int p3), .val (.int p4), .val (.int p5), .val (.int (2 : Int32)), .val (.int (0 : Int32)), .val (.ref am636), .val (.ref s0), .val (.ref s1), .val (.ref s2), .val (.ref b691), .val (.int (1 : Int32))] [(.ref b691), (.ref am636)])) rfl (by rw [hml]; rfl) (argsL := [(.ref am636), (.ref b691)]) (rest := []) (lenOf lw_pd0 rfl) rfl (by show 2 * 0 + _ ≤ _; exact Nat.le_of_eq rfl) (hb hby at_212) (fun _ _ => ⟨rfl, hh736, Nat.le_of_ble_eq_true rfl, Nat.le_of_ble_eq_true rfl⟩)
                dsimp only [Pt.U, Pt.locs, Pt.cells, Pt.slots] at X737 l737 y737 z737 st737 hQ737
                subst l737 y737 z737
                rw [if_pos (Or.inr ((hq1.symm)))] at hQ737
                obtain ⟨rfl, N737q, hh737⟩ := hQ737
                refine own_back st737 ?_
                have N737 := Fr.app N736 N737q
                show OwnGo p e below (T737.setTop (mkF m 215 #[.val (.int p1), .val (.int p2), .val (.int p3), .val (.int p4), .val (.int p5), .val (.int (2 : Int32)), .val (.int (0 : Int32)), .val (.ref am636), .val (.ref s0), .val (.ref s1), .val (.ref s2), .val (.ref b691), .val (.int (1 : Int32))] [(.int (1 : Int32))])) _
                refine own_back (fun t k => XS.iload X737.here hx rfl (hb hby at_215) rfl k) ?_
                show OwnGo p e below (T737.setTop (mkF m 217 #[.val (.int p1), .val (.int p2), .val (.int p3), .val (.int p4), .val (.int p5), .val (.int (2 : Int32)), .val (.int (0 : Int32)), .val (.ref am636), .val (.ref s0), .val (.ref s1), .val (.ref s2), .val (.ref b691), .val (.int (1 : Int32))] [(.int (1 : Int32)), (.int (1 : Int32))])) _
                refine own_back (fun t k => XS.icmpNo X737.here hx rfl (hb hby at_217) rfl (Jvm.Free.XT.ii_ne_f (by decide)) k) ?_
                show OwnGo p e below (T737.setTop (mkF m 220 #[.val (.int p1), .val (.int p2), .val (.int p3), .val (.int p4), .val (.int p5), .val (.int (2 : Int32)), .val (.int (0 : Int32)), .val (.ref am636), .val (.ref s0), .val (.ref s1), .val (.ref s2), .val (.ref b691), .val (.int (1 : Int32))] [])) _
                refine own_back (fun t k => XS.iconst X737.here hx rfl (hb hby at_220) k) ?_
                show OwnGo p e below (T737.setTop (mkF m 221 #[.val (.int p1), .val (.int p2), .val (.int p3), .val (.int p4), .val (.int p5), .val (.int (2 : Int32)), .val (.int (0 : Int32)), .val (.ref am636), .val (.ref s0), .val (.ref s1), .val (.ref s2), .val (.ref b691), .val (.int (1 : Int32))] [(.int (1 : Int32))])) _
                refine own_back (fun t k => XS.goto X737.here hx rfl (pc0 := 221) (pc' := 225) rfl (hb hby at_221) (by decide) (by decide) k) ?_
                show OwnGo p e below (T737.setTop (mkF m 225 #[.val (.int p1), .val (.int p2), .val (.int p3), .val (.int p4), .val (.int p5), .val (.int (2 : Int32)), .val (.int (0 : Int32)), .val (.ref am636), .val (.ref s0), .val (.ref s1), .val (.ref s2), .val (.ref b691), .val (.int (1 : Int32))] [(.int (1 : Int32))])) _
                refine own_retNW X737 hx Bd.notSynchronized (t := .boolean) (z := (1 : Int32)) Bd.returns (by simp) rfl hSj643 hk725 hZj643 hEL (hh ▸ CR724) (hb hby at_225) hh737 (Nat.le_of_ble_eq_true rfl) (Nat.le_of_ble_eq_true rfl) ?_
                exact ⟨rfl, N737⟩
              · obtain ⟨cq738, kq738, q738a, q738b, q738c⟩ := isOf hZj643 hh735 f726.exa
                obtain ⟨_, _, ⟨T738, L738, k738, n738⟩, -, X738, ⟨Lc738, hQ738, l738, y738, z738⟩, st738⟩ := X735.virtualBack hx (y := (⟨"java/lang/String", "equals", "(Ljava/lang/Object;)Z"⟩ : MethodName)) (z := (⟨"java/lang/String", "equals", "(Ljava/lang/Object;)Z"⟩ : MethodName)) hownj643 (mvT hZj643 (hw _ (List.mem_of_getElem? (i := 47) rfl))) (mvT hZj643 (hw _ (List.mem_of_getElem? (i := 40) rfl))) (notFace_of_selects (args := #[]) (mvT hZj643 (hw _ (List.mem_of_getElem? (i := 42) rfl)))) (mvT hZj643 (hw _ (List.mem_of_getElem? (i := 42) rfl))) (mvT hZj643 (hw _ (List.mem_of_getElem? (i := 41) rfl))) (by decide) (own_backN (W := 0) (rm_seq l Z a0 hw [] am636 s1 (own_mk p1) u1 cz h720 n0 Zs723 O721 f726 f728 SC hcz) hZj643 (hw _ (List.mem_of_getElem? (i := 43) rfl)) (hw _ (List.mem_of_getElem? (i := 6) rfl)) (by decide) (by decide)) q738a q738c (g := (mkF m 179 #[.val (.int p1), .val (.int p2), .val (.int p3), .val (.int p4), .val (.int p5), .val (.int (2 : Int32)), .val (.int (0 : Int32)), .val (.ref am636), .val (.ref s0), .val (.ref s1), .val (.ref s2), .val (.ref b691), .val (.int (0 : Int32))] [(.ref s1), (.ref am636)])) rfl (by rw [hml]; rfl) (Steps.refl _) (argsL := [(.ref s1)]) (rest := []) (lenOf lw_pd2 rfl) rfl (by show 2 * 0 + _ ≤ _; exact Nat.le_of_eq rfl) (hb hby at_179) (fun _ _ => ⟨rfl, hh735, Nat.le_of_ble_eq_true rfl, Nat.le_of_ble_eq_true rfl⟩)
                dsimp only [Pt.U, Pt.locs, Pt.cells, Pt.slots] at X738 l738 y738 z738 st738 hQ738
                subst l738 y738 z738
                rw [if_neg hq1] at hQ738
                obtain ⟨rfl, N738q, hh738⟩ := hQ738
                refine own_seq st738 ?_
                have N738 := Fr.app N735 N738q
                show OwnGo p e below (T738.setTop (mkF m 182 #[.val (.int p1), .val (.int p2), .val (.int p3), .val (.int p4), .val (.int p5), .val (.int (2 : Int32)), .val (.int (0 : Int32)), .val (.ref am636), .val (.ref s0), .val (.ref s1), .val (.ref s2), .val (.ref b691), .val (.int (0 : Int32))] [(.int (0 : Int32))])) _
                refine own_back (fun t k => XS.ifNo X738.here hx rfl (hb hby at_182) rfl (Jvm.Free.XT.i0_ne_f (by decide)) k) ?_
                show OwnGo p e below (T738.setTop (mkF m 185 #[.val (.int p1), .val (.int p2), .val (.int p3), .val (.int p4), .val (.int p5), .val (.int (2 : Int32)), .val (.int (0 : Int32)), .val (.ref am636), .val (.ref s0), .val (.ref s1), .val (.ref s2), .val (.ref b691), .val (.int (0 : Int32))] [])) _
                refine own_back (fun t k => XS.iload X738.here hx rfl (hb hby at_185) rfl k) ?_
                show OwnGo p e below (T738.setTop (mkF m 187 #[.val (.int p1), .val (.int p2), .val (.int p3), .val (.int p4), .val (.int p5), .val (.int (2 : Int32)), .val (.int (0 : Int32)), .val (.ref am636), .val (.ref s0), .val (.ref s1), .val (.ref s2), .val (.ref b691), .val (.int (0 : Int32))] [(.int (2 : Int32))])) _
                refine own_back (fun t k => XS.iconst X738.here hx rfl (hb hby at_187) k) ?_
                show OwnGo p e below (T738.setTop (mkF m 188 #[.val (.int p1), .val (.int p2), .val (.int p3), .val (.int p4), .val (.int p5), .val (.int (2 : Int32)), .val (.int (0 : Int32)), .val (.ref am636), .val (.ref s0), .val (.ref s1), .val (.ref s2), .val (.ref b691), .val (.int (0 : Int32))] [(.int (2 : Int32)), (.int (2 : Int32))])) _
                refine own_back (fun t k => XS.icmpYes X738.here hx rfl (pc0 := 188) (pc' := 205) rfl (hb hby at_188) rfl (Jvm.Free.XT.ii_le_t (by decide)) (by decide) (by decide) k) ?_
                show OwnGo p e below (T738.setTop (mkF m 205 #[.val (.int p1), .val (.int p2), .val (.int p3), .val (.int p4), .val (.int p5), .val (.int (2 : Int32)), .val (.int (0 : Int32)), .val (.ref am636), .val (.ref s0), .val (.ref s1), .val (.ref s2), .val (.ref b691), .val (.int (0 : Int32))] [])) _
                refine own_back (fun t k => XS.iconst X738.here hx rfl (hb hby at_205) k) ?_
                show OwnGo p e below (T738.setTop (mkF m 206 #[.val (.int p1), .val (.int p2), .val (.int p3), .val (.int p4), .val (.int p5), .val (.int (2 : Int32)), .val (.int (0 : Int32)), .val (.ref am636), .val (.ref s0), .val (.ref s1), .val (.ref s2), .val (.ref b691), .val (.int (0 : Int32))] [(.int (0 : Int32))])) _
                refine own_back (fun t k => XS.istore X738.here hx rfl (hb hby at_206) rfl (l' := #[.val (.int p1), .val (.int p2), .val (.int p3), .val (.int p4), .val (.int p5), .val (.int (2 : Int32)), .val (.int (0 : Int32)), .val (.ref am636), .val (.ref s0), .val (.ref s1), .val (.ref s2), .val (.ref b691), .val (.int (0 : Int32))]) rfl k) ?_
                show OwnGo p e below (T738.setTop (mkF m 208 #[.val (.int p1), .val (.int p2), .val (.int p3), .val (.int p4), .val (.int p5), .val (.int (2 : Int32)), .val (.int (0 : Int32)), .val (.ref am636), .val (.ref s0), .val (.ref s1), .val (.ref s2), .val (.ref b691), .val (.int (0 : Int32))] [])) _
                refine own_back (fun t k => XS.aload X738.here hx rfl (hb hby at_208) rfl rfl k) ?_
                show OwnGo p e below (T738.setTop (mkF m 210 #[.val (.int p1), .val (.int p2), .val (.int p3), .val (.int p4), .val (.int p5), .val (.int (2 : Int32)), .val (.int (0 : Int32)), .val (.ref am636), .val (.ref s0), .val (.ref s1), .val (.ref s2), .val (.ref b691), .val (.int (0 : Int32))] [(.ref am636)])) _
                refine own_back (fun t k => XS.aload X738.here hx rfl (hb hby at_210) rfl rfl k) ?_
                show OwnGo p e below (T738.setTop (mkF m 212 #[.val (.int p1), .val (.int p2), .val (.int p3), .val (.int p4), .val (.int p5), .val (.int (2 : Int32)), .val (.int (0 : Int32)), .val (.ref am636), .val (.ref s0), .val (.ref s1), .val (.ref s2), .val (.ref b691), .val (.int (0 : Int32))] [(.ref b691), (.ref am636)])) _
                obtain ⟨_, _, ⟨T739, L739, k739, n739⟩, -, X739, ⟨Lc739, hQ739, l739, y739, z739⟩, st739⟩ := Jvm.LawKit.callS X738 hx (y := (⟨"com/example/lease/lease/cli/OptionValues", "oneOf", "(Ljava/lang/String;[Ljava/lang/String;)Z"⟩ : MethodName)) hownj643 (mvT hZj643 (hw _ (List.mem_of_getElem? (i := 35) rfl))) (mvT hZj643 (hw _ (List.mem_of_getElem? (i := 36) rfl))) (mvT hZj643 (hw _ (List.mem_of_getElem? (i := 37) rfl))) (mvT hZj643 (hw _ (List.mem_of_getElem? (i := 38) rfl))) (by decide) (own_backN (W := 0) (rm_oo2 l Z a0 hw [] am636 (own_mk p1) b691 k691 s0 s1 u0 u1 cz h720 n0 Zs723 O721 f726 V731 f727 f728 SC hcz) hZj643 (hw _ (List.mem_of_getElem? (i := 38) rfl)) (hw _ (List.mem_of_getElem? (i := 37) rfl)) (by decide) (by decide)) (g := (mkF m 212 #[.val (.int p1), .val (.int p2), .val (.int p3), .val (.int p4), .val (.int p5), .val (.int (2 : Int32)), .val (.int (0 : Int32)), .val (.ref am636), .val (.ref s0), .val (.ref s1), .val (.ref s2), .val (.ref b691), .val (.int (0 : Int32))] [(.ref b691), (.ref am636)])) rfl (by rw [hml]; rfl) (argsL := [(.ref am636), (.ref b691)]) (rest := []) (lenOf lw_pd0 rfl) rfl (by show 2 * 0 + _ ≤ _; exact Nat.le_of_eq rfl) (hb hby at_212) (fun _ _ => ⟨rfl, hh738, Nat.le_of_ble_eq_true rfl, Nat.le_of_ble_eq_true rfl⟩)
                dsimp only [Pt.U, Pt.locs, Pt.cells, Pt.slots] at X739 l739 y739 z739 st739 hQ739
                subst l739 y739 z739
                rw [if_neg (by simp [Ne.symm (show _ ≠ _ from hq0), Ne.symm (show _ ≠ _ from hq1)])] at hQ739
                obtain ⟨rfl, N739q, hh739⟩ := hQ739
                refine own_back st739 ?_
                have N739 := Fr.app N738 N739q
                show OwnGo p e below (T739.setTop (mkF m 215 #[.val (.int p1), .val (.int p2), .val (.int p3), .val (.int p4), .val (.int p5), .val (.int (2 : Int32)), .val (.int (0 : Int32)), .val (.ref am636), .val (.ref s0), .val (.ref s1), .val (.ref s2), .val (.ref b691), .val (.int (0 : Int32))] [(.int (0 : Int32))])) _
                refine own_back (fun t k => XS.iload X739.here hx rfl (hb hby at_215) rfl k) ?_
                show OwnGo p e below (T739.setTop (mkF m 217 #[.val (.int p1), .val (.int p2), .val (.int p3), .val (.int p4), .val (.int p5), .val (.int (2 : Int32)), .val (.int (0 : Int32)), .val (.ref am636), .val (.ref s0), .val (.ref s1), .val (.ref s2), .val (.ref b691), .val (.int (0 : Int32))] [(.int (0 : Int32)), (.int (0 : Int32))])) _
                refine own_back (fun t k => XS.icmpNo X739.here hx rfl (hb hby at_217) rfl (Jvm.Free.XT.ii_ne_f (by decide)) k) ?_
                show OwnGo p e below (T739.setTop (mkF m 220 #[.val (.int p1), .val (.int p2), .val (.int p3), .val (.int p4), .val (.int p5), .val (.int (2 : Int32)), .val (.int (0 : Int32)), .val (.ref am636), .val (.ref s0), .val (.ref s1), .val (.ref s2), .val (.ref b691), .val (.int (0 : Int32))] [])) _
                refine own_back (fun t k => XS.iconst X739.here hx rfl (hb hby at_220) k) ?_
                show OwnGo p e below (T739.setTop (mkF m 221 #[.val (.int p1), .val (.int p2), .val (.int p3), .val (.int p4), .val (.int p5), .val (.int (2 : Int32)), .val (.int (0 : Int32)), .val (.ref am636), .val (.ref s0), .val (.ref s1), .val (.ref s2), .val (.ref b691), .val (.int (0 : Int32))] [(.int (1 : Int32))])) _
                refine own_back (fun t k => XS.goto X739.here hx rfl (pc0 := 221) (pc' := 225) rfl (hb hby at_221) (by decide) (by decide) k) ?_
                show OwnGo p e below (T739.setTop (mkF m 225 #[.val (.int p1), .val (.int p2), .val (.int p3), .val (.int p4), .val (.int p5), .val (.int (2 : Int32)), .val (.int (0 : Int32)), .val (.ref am636), .val (.ref s0), .val (.ref s1), .val (.ref s2), .val (.ref b691), .val (.int (0 : Int32))] [(.int (1 : Int32))])) _
                refine own_retNW X739 hx Bd.notSynchronized (t := .boolean) (z := (1 : Int32)) Bd.returns (by simp) rfl hSj643 hk725 hZj643 hEL (hh ▸ CR724) (hb hby at_225) hh739 (Nat.le_of_ble_eq_true rfl) (Nat.le_of_ble_eq_true rfl) ?_
                exact ⟨rfl, N739⟩
          · rw [hn]
            show OwnGo p e below (Tj643.setTop (mkF m 104 #[.val (.int p1), .val (.int p2), .val (.int p3), .val (.int p4), .val (.int p5), .val (.int (3 : Int32)), .val (.int (0 : Int32)), .val (.ref am636), .val (.ref s0), .val (.ref s1), .val (.ref s2), .unset, .unset] [])) _
            refine own_back (fun t k => XS.iload Xj643.here hx rfl (hb hby at_104) rfl k) ?_
            show OwnGo p e below (Tj643.setTop (mkF m 106 #[.val (.int p1), .val (.int p2), .val (.int p3), .val (.int p4), .val (.int p5), .val (.int (3 : Int32)), .val (.int (0 : Int32)), .val (.ref am636), .val (.ref s0), .val (.ref s1), .val (.ref s2), .unset, .unset] [(.int (3 : Int32))])) _
            obtain ⟨T740, h740, k740, X740, e740, E740, A740, O740, st740⟩ := newR Xj643 hx hZj643 hownj643 (hw _ (List.mem_of_getElem? (i := 4) rfl)) (hw _ (List.mem_of_getElem? (i := 34) rfl)) ej643 (g := (mkF m 106 #[.val (.int p1), .val (.int p2), .val (.int p3), .val (.int p4), .val (.int p5), .val (.int (3 : Int32)), .val (.int (0 : Int32)), .val (.ref am636), .val (.ref s0), .val (.ref s1), .val (.ref s2), .unset, .unset] [(.int (3 : Int32))])) rfl (hb hby at_106) rfl (by decide) (cap := 3) (by decide) (by decide) (Nat.le_of_ble_eq_true rfl) (Nat.le_of_ble_eq_true rfl)
            obtain ⟨b740, g740⟩ : ∃ z, z = hj643.size := ⟨_, rfl⟩
            have ge741 : n0 ≤ b740 := Nat.le_trans Zj643 (Nat.le_of_eq g740.symm)
            have sz742 : h0.size ≤ b740 := Nat.le_trans KPj643.1 (Nat.le_of_eq g740.symm)
            rw [← g740] at A740 st740
            have O743 := Oj643.ext E740
            have KP744 := KPj643.ext E740
            have Zs745 := Nat.le_trans Zj643 E740.1
            have CR746 := CRj643.trans (CHr.ext E740 CRj643.1)
            have hk747 := Nat.le_trans hkj643 E740.1
            have f748 := hs643_0.ext E740
            have f749 := hs643_1.ext E740
            have f750 := hs643_2.ext E740
            have f751 := hs643_3.ext E740
            have V752 : Arv Z h740 b740 k740 (.object "java/lang/String") (3 : Int32) [.null, .null, .null] .null := (Arv.new A740 (by decide)).pad (pad_rep [] .null 3)
            have sf753 := Safe.ext E740 CRj643.1 (Safe.new (Nat.le_of_eq g740.symm))
            refine own_back st740 ?_
            show OwnGo p e below (T740.setTop (mkF m 109 #[.val (.int p1), .val (.int p2), .val (.int p3), .val (.int p4), .val (.int p5), .val (.int (3 : Int32)), .val (.int (0 : Int32)), .val (.ref am636), .val (.ref s0), .val (.ref s1), .val (.ref s2), .unset, .unset] [(.ref b740)])) _
            refine own_back (fun t k => XS.astore X740.here hx rfl (hb hby at_109) rfl rfl (l' := #[.val (.int p1), .val (.int p2), .val (.int p3), .val (.int p4), .val (.int p5), .val (.int (3 : Int32)), .val (.int (0 : Int32)), .val (.ref am636), .val (.ref s0), .val (.ref s1), .val (.ref s2), .val (.ref b740), .unset]) rfl k) ?_
            show OwnGo p e below (T740.setTop (mkF m 111 #[.val (.int p1), .val (.int p2), .val (.int p3), .val (.int p4), .val (.int p5), .val (.int (3 : Int32)), .val (.int (0 : Int32)), .val (.ref am636), .val (.ref s0), .val (.ref s1), .val (.ref s2), .val (.ref b740), .unset] [])) _
            refine own_back (fun t k => XS.iload X740.here hx rfl (hb hby at_111) rfl k) ?_
            show OwnGo p e below (T740.setTop (mkF m 113 #[.val (.int p1), .val (.int p2), .val (.int p3), .val (.int p4), .val (.int p5), .val (.int (3 : Int32)), .val (.int (0 : Int32)), .val (.ref am636), .val (.ref s0), .val (.ref s1), .val (.ref s2), .val (.ref b740), .unset] [(.int (3 : Int32))])) _
            refine own_back (fun t k => XS.ifNo X740.here hx rfl (hb hby at_113) rfl (Jvm.Free.XT.i0_le_f (by decide)) k) ?_
            show OwnGo p e below (T740.setTop (mkF m 116 #[.val (.int p1), .val (.int p2), .val (.int p3), .val (.int p4), .val (.int p5), .val (.int (3 : Int32)), .val (.int (0 : Int32)), .val (.ref am636), .val (.ref s0), .val (.ref s1), .val (.ref s2), .val (.ref b740), .unset] [])) _
            refine own_back (fun t k => XS.aload X740.here hx rfl (hb hby at_116) rfl rfl k) ?_
            show OwnGo p e below (T740.setTop (mkF m 118 #[.val (.int p1), .val (.int p2), .val (.int p3), .val (.int p4), .val (.int p5), .val (.int (3 : Int32)), .val (.int (0 : Int32)), .val (.ref am636), .val (.ref s0), .val (.ref s1), .val (.ref s2), .val (.ref b740), .unset] [(.ref b740)])) _
            refine own_back (fun t k => XS.iconst X740.here hx rfl (hb hby at_118) k) ?_
            show OwnGo p e below (T740.setTop (mkF m 119 #[.val (.int p1), .val (.int p2), .val (.int p3), .val (.int p4), .val (.int p5), .val (.int (3 : Int32)), .val (.int (0 : Int32)), .val (.ref am636), .val (.ref s0), .val (.ref s1), .val (.ref s2), .val (.ref b740), .unset] [(.int (0 : Int32)), (.ref b740)])) _
            refine own_back (fun t k => XS.aload X740.here hx rfl (hb hby at_119) rfl rfl k) ?_
            show OwnGo p e below (T740.setTop (mkF m 121 #[.val (.int p1), .val (.int p2), .val (.int p3), .val (.int p4), .val (.int p5), .val (.int (3 : Int32)), .val (.int (0 : Int32)), .val (.ref am636), .val (.ref s0), .val (.ref s1), .val (.ref s2), .val (.ref b740), .unset] [(.ref s0), (.int (0 : Int32)), (.ref b740)])) _
            obtain ⟨c754, A754, q754, S754, M754, H754, U754⟩ := id V752
            obtain ⟨T755, h755, X755, e755, W755, st755⟩ := stR X740 hx hZj643 e740 A754 (j := (0 : Int32)) (inb_of S754 ⟨by decide, by decide⟩) rfl (Sto.ofV A754 q754 O740 (Ins.self f749.exa)) (g := (mkF m 121 #[.val (.int p1), .val (.int p2), .val (.int p3), .val (.int p4), .val (.int p5), .val (.int (3 : Int32)), .val (.int (0 : Int32)), .val (.ref am636), .val (.ref s0), .val (.ref s1), .val (.ref s2), .val (.ref b740), .unset] [(.ref s0), (.int (0 : Int32)), (.ref b740)])) rfl rfl (hb hby at_121)
            have O756 := O743.wr W755 ge741
            have KP757 := KP744.wr W755 (Or.inr sz742)
            have Zs758 := Nat.le_trans Zs745 (Keep.of_wr W755).1
            have CR759 := CR746.trans (CHr.wr W755 sf753 CR746.1)
            have hk760 := Nat.le_trans hk747 (Keep.of_wr W755).1
            have f761 := (OwnStr.wrA W755 V752 (by decide) (hw _ (List.mem_of_getElem? (i := 5) rfl)) f748)
            have f762 := (OwnStr.wrA W755 V752 (by decide) (hw _ (List.mem_of_getElem? (i := 5) rfl)) f749)
            have f763 := (OwnStr.wrA W755 V752 (by decide) (hw _ (List.mem_of_getElem? (i := 5) rfl)) f750)
            have f764 := (OwnStr.wrA W755 V752 (by decide) (hw _ (List.mem_of_getElem? (i := 5) rfl)) f751)
            have f765 := (Safe.wr W755 sf753 CR746.1 sf753)
            have V766 : Arv Z h755 b740 k740 (.object "java/lang/String") (3 : Int32) [(.ref s0), .null, .null] .null := Arv.set A754 q754 S754 M754 H754 U754 rfl W755 0 rfl (Nat.le_of_ble_eq_true rfl)
            have N767 := Fr.snoc X755 Nj643 ge741
            refine own_back st755 ?_
            show OwnGo p e below (T755.setTop (mkF m 122 #[.val (.int p1), .val (.int p2), .val (.int p3), .val (.int p4), .val (.int p5), .val (.int (3 : Int32)), .val (.int (0 : Int32)), .val (.ref am636), .val (.ref s0), .val (.ref s1), .val (.ref s2), .val (.ref b740), .unset] [])) _
            refine own_back (fun t k => XS.iload X755.here hx rfl (hb hby at_122) rfl k) ?_
            show OwnGo p e below (T755.setTop (mkF m 124 #[.val (.int p1), .val (.int p2), .val (.int p3), .val (.int p4), .val (.int p5), .val (.int (3 : Int32)), .val (.int (0 : Int32)), .val (.ref am636), .val (.ref s0), .val (.ref s1), .val (.ref s2), .val (.ref b740), .unset] [(.int (3 : Int32))])) _
            refine own_back (fun t k => XS.iconst X755.here hx rfl (hb hby at_124) k) ?_
            show OwnGo p e below (T755.setTop (mkF m 125 #[.val (.int p1), .val (.int p2), .val (.int p3), .val (.int p4), .val (.int p5), .val (.int (3 : Int32)), .val (.int (0 : Int32)), .val (.ref am636), .val (.ref s0), .val (.ref s1), .val (.ref s2), .val (.ref b740), .unset] [(.int (1 : Int32)), (.int (3 : Int32))])) _
            refine own_back (fun t k => XS.icmpNo X755.here hx rfl (hb hby at_125) rfl (Jvm.Free.XT.ii_le_f (by decide)) k) ?_
            show OwnGo p e below (T755.setTop (mkF m 128 #[.val (.int p1), .val (.int p2), .val (.int p3), .val (.int p4), .val (.int p5), .val (.int (3 : Int32)), .val (.int (0 : Int32)), .val (.ref am636), .val (.ref s0), .val (.ref s1), .val (.ref s2), .val (.ref b740), .unset] [])) _
            refine own_back (fun t k => XS.aload X755.here hx rfl (hb hby at_128) rfl rfl k) ?_
            show OwnGo p e below (T755.setTop (mkF m 130 #[.val (.int p1), .val (.int p2), .val (.int p3), .val (.int p4), .val (.int p5), .val (.int (3 : Int32)), .val (.int (0 : Int32)), .val (.ref am636), .val (.ref s0), .val (.ref s1), .val (.ref s2), .val (.ref b740), .unset] [(.ref b740)])) _
            refine own_back (fun t k => XS.iconst X755.here hx rfl (hb hby at_130) k) ?_
            show OwnGo p e below (T755.setTop (mkF m 131 #[.val (.int p1), .val (.int p2), .val (.int p3), .val (.int p4), .val (.int p5), .val (.int (3 : Int32)), .val (.int (0 : Int32)), .val (.ref am636), .val (.ref s0), .val (.ref s1), .val (.ref s2), .val (.ref b740), .unset] [(.int (1 : Int32)), (.ref b740)])) _
            refine own_back (fun t k => XS.aload X755.here hx rfl (hb hby at_131) rfl rfl k) ?_
            show OwnGo p e below (T755.setTop (mkF m 133 #[.val (.int p1), .val (.int p2), .val (.int p3), .val (.int p4), .val (.int p5), .val (.int (3 : Int32)), .val (.int (0 : Int32)), .val (.ref am636), .val (.ref s0), .val (.ref s1), .val (.ref s2), .val (.ref b740), .unset] [(.ref s1), (.int (1 : Int32)), (.ref b740)])) _
            obtain ⟨c768, A768, q768, S768, M768, H768, U768⟩ := id V766
            obtain ⟨T769, h769, X769, e769, W769, st769⟩ := stR X755 hx hZj643 e755 A768 (j := (1 : Int32)) (inb_of S768 ⟨by decide, by decide⟩) rfl (Sto.ofV A768 q768 O740 (Ins.self f763.exa)) (g := (mkF m 133 #[.val (.int p1), .val (.int p2), .val (.int p3), .val (.int p4), .val (.int p5), .val (.int (3 : Int32)), .val (.int (0 : Int32)), .val (.ref am636), .val (.ref s0), .val (.ref s1), .val (.ref s2), .val (.ref b740), .unset] [(.ref s1), (.int (1 : Int32)), (.ref b740)])) rfl rfl (hb hby at_133)
            have O770 := O756.wr W769 ge741
            have KP771 := KP757.wr W769 (Or.inr sz742)
            have Zs772 := Nat.le_trans Zs758 (Keep.of_wr W769).1
            have CR773 := CR759.trans (CHr.wr W769 f765 CR759.1)
            have hk774 := Nat.le_trans hk760 (Keep.of_wr W769).1
            have f775 := (OwnStr.wrA W769 V766 (by decide) (hw _ (List.mem_of_getElem? (i := 5) rfl)) f761)
            have f776 := (OwnStr.wrA W769 V766 (by decide) (hw _ (List.mem_of_getElem? (i := 5) rfl)) f762)
            have f777 := (OwnStr.wrA W769 V766 (by decide) (hw _ (List.mem_of_getElem? (i := 5) rfl)) f763)
            have f778 := (OwnStr.wrA W769 V766 (by decide) (hw _ (List.mem_of_getElem? (i := 5) rfl)) f764)
            have f779 := (Safe.wr W769 f765 CR759.1 f765)
            have V780 : Arv Z h769 b740 k740 (.object "java/lang/String") (3 : Int32) [(.ref s0), (.ref s1), .null] .null := Arv.set A768 q768 S768 M768 H768 U768 rfl W769 1 rfl (Nat.le_of_ble_eq_true rfl)
            have N781 := Fr.snoc X769 N767 ge741
            refine own_back st769 ?_
            show OwnGo p e below (T769.setTop (mkF m 134 #[.val (.int p1), .val (.int p2), .val (.int p3), .val (.int p4), .val (.int p5), .val (.int (3 : Int32)), .val (.int (0 : Int32)), .val (.ref am636), .val (.ref s0), .val (.ref s1), .val (.ref s2), .val (.ref b740), .unset] [])) _
            refine own_back (fun t k => XS.iload X769.here hx rfl (hb hby at_134) rfl k) ?_
            show OwnGo p e below (T769.setTop (mkF m 136 #[.val (.int p1), .val (.int p2), .val (.int p3), .val (.int p4), .val (.int p5), .val (.int (3 : Int32)), .val (.int (0 : Int32)), .val (.ref am636), .val (.ref s0), .val (.ref s1), .val (.ref s2), .val (.ref b740), .unset] [(.int (3 : Int32))])) _
            refine own_back (fun t k => XS.iconst X769.here hx rfl (hb hby at_136) k) ?_
            show OwnGo p e below (T769.setTop (mkF m 137 #[.val (.int p1), .val (.int p2), .val (.int p3), .val (.int p4), .val (.int p5), .val (.int (3 : Int32)), .val (.int (0 : Int32)), .val (.ref am636), .val (.ref s0), .val (.ref s1), .val (.ref s2), .val (.ref b740), .unset] [(.int (2 : Int32)), (.int (3 : Int32))])) _
            refine own_back (fun t k => XS.icmpNo X769.here hx rfl (hb hby at_137) rfl (Jvm.Free.XT.ii_le_f (by decide)) k) ?_
            show OwnGo p e below (T769.setTop (mkF m 140 #[.val (.int p1), .val (.int p2), .val (.int p3), .val (.int p4), .val (.int p5), .val (.int (3 : Int32)), .val (.int (0 : Int32)), .val (.ref am636), .val (.ref s0), .val (.ref s1), .val (.ref s2), .val (.ref b740), .unset] [])) _
            refine own_back (fun t k => XS.aload X769.here hx rfl (hb hby at_140) rfl rfl k) ?_
            show OwnGo p e below (T769.setTop (mkF m 142 #[.val (.int p1), .val (.int p2), .val (.int p3), .val (.int p4), .val (.int p5), .val (.int (3 : Int32)), .val (.int (0 : Int32)), .val (.ref am636), .val (.ref s0), .val (.ref s1), .val (.ref s2), .val (.ref b740), .unset] [(.ref b740)])) _
            refine own_back (fun t k => XS.iconst X769.here hx rfl (hb hby at_142) k) ?_
            show OwnGo p e below (T769.setTop (mkF m 143 #[.val (.int p1), .val (.int p2), .val (.int p3), .val (.int p4), .val (.int p5), .val (.int (3 : Int32)), .val (.int (0 : Int32)), .val (.ref am636), .val (.ref s0), .val (.ref s1), .val (.ref s2), .val (.ref b740), .unset] [(.int (2 : Int32)), (.ref b740)])) _
            refine own_back (fun t k => XS.aload X769.here hx rfl (hb hby at_143) rfl rfl k) ?_
            show OwnGo p e below (T769.setTop (mkF m 145 #[.val (.int p1), .val (.int p2), .val (.int p3), .val (.int p4), .val (.int p5), .val (.int (3 : Int32)), .val (.int (0 : Int32)), .val (.ref am636), .val (.ref s0), .val (.ref s1), .val (.ref s2), .val (.ref b740), .unset] [(.ref s2), (.int (2 : Int32)), (.ref b740)])) _
            obtain ⟨c782, A782, q782, S782, M782, H782, U782⟩ := id V780
            obtain ⟨T783, h783, X783, e783, W783, st783⟩ := stR X769 hx hZj643 e769 A782 (j := (2 : Int32)) (inb_of S782 ⟨by decide, by decide⟩) rfl (Sto.ofV A782 q782 O740 (Ins.self f778.exa)) (g := (mkF m 145 #[.val (.int p1), .val (.int p2), .val (.int p3), .val (.int p4), .val (.int p5), .val (.int (3 : Int32)), .val (.int (0 : Int32)), .val (.ref am636), .val (.ref s0), .val (.ref s1), .val (.ref s2), .val (.ref b740), .unset] [(.ref s2), (.int (2 : Int32)), (.ref b740)])) rfl rfl (hb hby at_145)
            have O784 := O770.wr W783 ge741
            have KP785 := KP771.wr W783 (Or.inr sz742)
            have Zs786 := Nat.le_trans Zs772 (Keep.of_wr W783).1
            have CR787 := CR773.trans (CHr.wr W783 f779 CR773.1)
            have hk788 := Nat.le_trans hk774 (Keep.of_wr W783).1
            have f789 := (OwnStr.wrA W783 V780 (by decide) (hw _ (List.mem_of_getElem? (i := 5) rfl)) f775)
            have f790 := (OwnStr.wrA W783 V780 (by decide) (hw _ (List.mem_of_getElem? (i := 5) rfl)) f776)
            have f791 := (OwnStr.wrA W783 V780 (by decide) (hw _ (List.mem_of_getElem? (i := 5) rfl)) f777)
            have f792 := (OwnStr.wrA W783 V780 (by decide) (hw _ (List.mem_of_getElem? (i := 5) rfl)) f778)
            have f793 := (Safe.wr W783 f779 CR773.1 f779)
            have V794 : Arv Z h783 b740 k740 (.object "java/lang/String") (3 : Int32) [(.ref s0), (.ref s1), (.ref s2)] .null := Arv.set A782 q782 S782 M782 H782 U782 rfl W783 2 rfl (Nat.le_of_ble_eq_true rfl)
            have N795 := Fr.snoc X783 N781 ge741
            refine own_back st783 ?_
            show OwnGo p e below (T783.setTop (mkF m 146 #[.val (.int p1), .val (.int p2), .val (.int p3), .val (.int p4), .val (.int p5), .val (.int (3 : Int32)), .val (.int (0 : Int32)), .val (.ref am636), .val (.ref s0), .val (.ref s1), .val (.ref s2), .val (.ref b740), .unset] [])) _
            refine own_back (fun t k => XS.iconst X783.here hx rfl (hb hby at_146) k) ?_
            show OwnGo p e below (T783.setTop (mkF m 147 #[.val (.int p1), .val (.int p2), .val (.int p3), .val (.int p4), .val (.int p5), .val (.int (3 : Int32)), .val (.int (0 : Int32)), .val (.ref am636), .val (.ref s0), .val (.ref s1), .val (.ref s2), .val (.ref b740), .unset] [(.int (0 : Int32))])) _
            refine own_back (fun t k => XS.istore X783.here hx rfl (hb hby at_147) rfl (l' := #[.val (.int p1), .val (.int p2), .val (.int p3), .val (.int p4), .val (.int p5), .val (.int (3 : Int32)), .val (.int (0 : Int32)), .val (.ref am636), .val (.ref s0), .val (.ref s1), .val (.ref s2), .val (.ref b740), .val (.int (0 : Int32))]) rfl k) ?_
            show OwnGo p e below (T783.setTop (mkF m 149 #[.val (.int p1), .val (.int p2), .val (.int p3), .val (.int p4), .val (.int p5), .val (.int (3 : Int32)), .val (.int (0 : Int32)), .val (.ref am636), .val (.ref s0), .val (.ref s1), .val (.ref s2), .val (.ref b740), .val (.int (0 : Int32))] [])) _
            refine own_back (fun t k => XS.iload X783.here hx rfl (hb hby at_149) rfl k) ?_
            show OwnGo p e below (T783.setTop (mkF m 151 #[.val (.int p1), .val (.int p2), .val (.int p3), .val (.int p4), .val (.int p5), .val (.int (3 : Int32)), .val (.int (0 : Int32)), .val (.ref am636), .val (.ref s0), .val (.ref s1), .val (.ref s2), .val (.ref b740), .val (.int (0 : Int32))] [(.int (0 : Int32))])) _
            refine own_back (fun t k => XS.ifNo X783.here hx rfl (hb hby at_151) rfl (Jvm.Free.XT.i0_ne_f (by decide)) k) ?_
            show OwnGo p e below (T783.setTop (mkF m 154 #[.val (.int p1), .val (.int p2), .val (.int p3), .val (.int p4), .val (.int p5), .val (.int (3 : Int32)), .val (.int (0 : Int32)), .val (.ref am636), .val (.ref s0), .val (.ref s1), .val (.ref s2), .val (.ref b740), .val (.int (0 : Int32))] [])) _
            refine own_back (fun t k => XS.iload X783.here hx rfl (hb hby at_154) rfl k) ?_
            show OwnGo p e below (T783.setTop (mkF m 156 #[.val (.int p1), .val (.int p2), .val (.int p3), .val (.int p4), .val (.int p5), .val (.int (3 : Int32)), .val (.int (0 : Int32)), .val (.ref am636), .val (.ref s0), .val (.ref s1), .val (.ref s2), .val (.ref b740), .val (.int (0 : Int32))] [(.int (3 : Int32))])) _
            refine own_back (fun t k => XS.ifNo X783.here hx rfl (hb hby at_156) rfl (Jvm.Free.XT.i0_le_f (by decide)) k) ?_
            show OwnGo p e below (T783.setTop (mkF m 159 #[.val (.int p1), .val (.int p2), .val (.int p3), .val (.int p4), .val (.int p5), .val (.int (3 : Int32)), .val (.int (0 : Int32)), .val (.ref am636), .val (.ref s0), .val (.ref s1), .val (.ref s2), .val (.ref b740), .val (.int (0 : Int32))] [])) _
            refine own_back (fun t k => XS.aload X783.here hx rfl (hb hby at_159) rfl rfl k) ?_
            show OwnGo p e below (T783.setTop (mkF m 161 #[.val (.int p1), .val (.int p2), .val (.int p3), .val (.int p4), .val (.int p5), .val (.int (3 : Int32)), .val (.int (0 : Int32)), .val (.ref am636), .val (.ref s0), .val (.ref s1), .val (.ref s2), .val (.ref b740), .val (.int (0 : Int32))] [(.ref am636)])) _
            refine own_back (fun t k => XS.aload X783.here hx rfl (hb hby at_161) rfl rfl k) ?_
            show OwnGo p e below (T783.setTop (mkF m 163 #[.val (.int p1), .val (.int p2), .val (.int p3), .val (.int p4), .val (.int p5), .val (.int (3 : Int32)), .val (.int (0 : Int32)), .val (.ref am636), .val (.ref s0), .val (.ref s1), .val (.ref s2), .val (.ref b740), .val (.int (0 : Int32))] [(.ref s0), (.ref am636)])) _
            by_cases hq0 : (own_mk p1) = u0
            · obtain ⟨cq796, kq796, q796a, q796b, q796c⟩ := isOf hZj643 e783 f789.exa
              obtain ⟨_, _, ⟨T796, L796, k796, n796⟩, -, X796, ⟨Lc796, hQ796, l796, y796, z796⟩, st796⟩ := X783.virtualBack hx (y := (⟨"java/lang/String", "equals", "(Ljava/lang/Object;)Z"⟩ : MethodName)) (z := (⟨"java/lang/String", "equals", "(Ljava/lang/Object;)Z"⟩ : MethodName)) hownj643 (mvT hZj643 (hw _ (List.mem_of_getElem? (i := 47) rfl))) (mvT hZj643 (hw _ (List.mem_of_getElem? (i := 40) rfl))) (notFace_of_selects (args := #[]) (mvT hZj643 (hw _ (List.mem_of_getElem? (i := 42) rfl)))) (mvT hZj643 (hw _ (List.mem_of_getElem? (i := 42) rfl))) (mvT hZj643 (hw _ (List.mem_of_getElem? (i := 41) rfl))) (by decide) (own_backN (W := 0) (rm_seq l Z a0 hw [] am636 s0 (own_mk p1) u0 cz h783 n0 Zs786 O784 f789 f790 SC hcz) hZj643 (hw _ (List.mem_of_getElem? (i := 43) rfl)) (hw _ (List.mem_of_getElem? (i := 6) rfl)) (by decide) (by decide)) q796a q796c (g := (mkF m 163 #[.val (.int p1), .val (.int p2), .val (.int p3), .val (.int p4), .val (.int p5), .val (.int (3 : Int32)), .val (.int (0 : Int32)), .val (.ref am636), .val (.ref s0), .val (.ref s1), .val (.ref s2), .val (.ref b740), .val (.int (0 : Int32))] [(.ref s0), (.ref am636)])) rfl (by rw [hml]; rfl) (Steps.refl _) (argsL := [(.ref s0)]) (rest := []) (lenOf lw_pd2 rfl) rfl (by show 2 * 0 + _ ≤ _; exact Nat.le_of_eq rfl) (hb hby at_163) (fun _ _ => ⟨rfl, e783, Nat.le_of_ble_eq_true rfl, Nat.le_of_ble_eq_true rfl⟩)
              dsimp only [Pt.U, Pt.locs, Pt.cells, Pt.slots] at X796 l796 y796 z796 st796 hQ796
              subst l796 y796 z796
              rw [if_pos hq0] at hQ796
              obtain ⟨rfl, N796q, hh796⟩ := hQ796
              refine own_seq st796 ?_
              have N796 := Fr.app N795 N796q
              show OwnGo p e below (T796.setTop (mkF m 166 #[.val (.int p1), .val (.int p2), .val (.int p3), .val (.int p4), .val (.int p5), .val (.int (3 : Int32)), .val (.int (0 : Int32)), .val (.ref am636), .val (.ref s0), .val (.ref s1), .val (.ref s2), .val (.ref b740), .val (.int (0 : Int32))] [(.int (1 : Int32))])) _
              refine own_back (fun t k => XS.ifYes X796.here hx rfl (pc0 := 166) (pc' := 201) rfl (hb hby at_166) rfl (Jvm.Free.XT.i0_ne_t (by decide)) (by decide) (by decide) k) ?_
              show OwnGo p e below (T796.setTop (mkF m 201 #[.val (.int p1), .val (.int p2), .val (.int p3), .val (.int p4), .val (.int p5), .val (.int (3 : Int32)), .val (.int (0 : Int32)), .val (.ref am636), .val (.ref s0), .val (.ref s1), .val (.ref s2), .val (.ref b740), .val (.int (0 : Int32))] [])) _
              refine own_back (fun t k => XS.iconst X796.here hx rfl (hb hby at_201) k) ?_
              show OwnGo p e below (T796.setTop (mkF m 202 #[.val (.int p1), .val (.int p2), .val (.int p3), .val (.int p4), .val (.int p5), .val (.int (3 : Int32)), .val (.int (0 : Int32)), .val (.ref am636), .val (.ref s0), .val (.ref s1), .val (.ref s2), .val (.ref b740), .val (.int (0 : Int32))] [(.int (1 : Int32))])) _
              refine own_back (fun t k => XS.goto X796.here hx rfl (pc0 := 202) (pc' := 206) rfl (hb hby at_202) (by decide) (by decide) k) ?_
              show OwnGo p e below (T796.setTop (mkF m 206 #[.val (.int p1), .val (.int p2), .val (.int p3), .val (.int p4), .val (.int p5), .val (.int (3 : Int32)), .val (.int (0 : Int32)), .val (.ref am636), .val (.ref s0), .val (.ref s1), .val (.ref s2), .val (.ref b740), .val (.int (0 : Int32))] [(.int (1 : Int32))])) _
              refine own_back (fun t k => XS.istore X796.here hx rfl (hb hby at_206) rfl (l' := #[.val (.int p1), .val (.int p2), .val (.int p3), .val (.int p4), .val (.int p5), .val (.int (3 : Int32)), .val (.int (0 : Int32)), .val (.ref am636), .val (.ref s0), .val (.ref s1), .val (.ref s2), .val (.ref b740), .val (.int (1 : Int32))]) rfl k) ?_
              show OwnGo p e below (T796.setTop (mkF m 208 #[.val (.int p1), .val (.int p2), .val (.int p3), .val (.int p4), .val (.int p5), .val (.int (3 : Int32)), .val (.int (0 : Int32)), .val (.ref am636), .val (.ref s0), .val (.ref s1), .val (.ref s2), .val (.ref b740), .val (.int (1 : Int32))] [])) _
              refine own_back (fun t k => XS.aload X796.here hx rfl (hb hby at_208) rfl rfl k) ?_
              show OwnGo p e below (T796.setTop (mkF m 210 #[.val (.int p1), .val (.int p2), .val (.int p3), .val (.int p4), .val (.int p5), .val (.int (3 : Int32)), .val (.int (0 : Int32)), .val (.ref am636), .val (.ref s0), .val (.ref s1), .val (.ref s2), .val (.ref b740), .val (.int (1 : Int32))] [(.ref am636)])) _
              refine own_back (fun t k => XS.aload X796.here hx rfl (hb hby at_210) rfl rfl k) ?_
              show OwnGo p e below (T796.setTop (mkF m 212 #[.val (.int p1), .val (.int p2), .val (.int p3), .val (.int p4), .val (.int p5), .val (.int (3 : Int32)), .val (.int (0 : Int32)), .val (.ref am636), .val (.ref s0), .val (.ref s1), .val (.ref s2), .val (.ref b740), .val (.int (1 : Int32))] [(.ref b740), (.ref am636)])) _
              obtain ⟨_, _, ⟨T797, L797, k797, n797⟩, -, X797, ⟨Lc797, hQ797, l797, y797, z797⟩, st797⟩ := Jvm.LawKit.callS X796 hx (y := (⟨"com/example/lease/lease/cli/OptionValues", "oneOf", "(Ljava/lang/String;[Ljava/lang/String;)Z"⟩ : MethodName)) hownj643 (mvT hZj643 (hw _ (List.mem_of_getElem? (i := 35) rfl))) (mvT hZj643 (hw _ (List.mem_of_getElem? (i := 36) rfl))) (mvT hZj643 (hw _ (List.mem_of_getElem? (i := 37) rfl))) (mvT hZj643 (hw _ (List.mem_of_getElem? (i := 38) rfl))) (by decide) (own_backN (W := 0) (rm_oo3 l Z a0 hw [] am636 (own_mk p1) b740 k740 s0 s1 s2 u0 u1 u2 cz h783 n0 Zs786 O784 f789 V794 f790 f791 f792 SC hcz) hZj643 (hw _ (List.mem_of_getElem? (i := 38) rfl)) (hw _ (List.mem_of_getElem? (i := 37) rfl)) (by decide) (by decide)) (g := (mkF m 212 #[.val (.int p1), .val (.int p2), .val (.int p3), .val (.int p4), .val (.int p5), .val (.int (3 : Int32)), .val (.int (0 : Int32)), .val (.ref am636), .val (.ref s0), .val (.ref s1), .val (.ref s2), .val (.ref b740), .val (.int (1 : Int32))] [(.ref b740), (.ref am636)])) rfl (by rw [hml]; rfl) (argsL := [(.ref am636), (.ref b740)]) (rest := []) (lenOf lw_pd0 rfl) rfl (by show 2 * 0 + _ ≤ _; exact Nat.le_of_eq rfl) (hb hby at_212) (fun _ _ => ⟨rfl, hh796, Nat.le_of_ble_eq_true rfl, Nat.le_of_ble_eq_true rfl⟩)
              dsimp only [Pt.U, Pt.locs, Pt.cells, Pt.slots] at X797 l797 y797 z797 st797 hQ797
              subst l797 y797 z797
              rw [if_pos (Or.inl (hq0.symm))] at hQ797
              obtain ⟨rfl, N797q, hh797⟩ := hQ797
              refine own_back st797 ?_
              have N797 := Fr.app N796 N797q
              show OwnGo p e below (T797.setTop (mkF m 215 #[.val (.int p1), .val (.int p2), .val (.int p3), .val (.int p4), .val (.int p5), .val (.int (3 : Int32)), .val (.int (0 : Int32)), .val (.ref am636), .val (.ref s0), .val (.ref s1), .val (.ref s2), .val (.ref b740), .val (.int (1 : Int32))] [(.int (1 : Int32))])) _
              refine own_back (fun t k => XS.iload X797.here hx rfl (hb hby at_215) rfl k) ?_
              show OwnGo p e below (T797.setTop (mkF m 217 #[.val (.int p1), .val (.int p2), .val (.int p3), .val (.int p4), .val (.int p5), .val (.int (3 : Int32)), .val (.int (0 : Int32)), .val (.ref am636), .val (.ref s0), .val (.ref s1), .val (.ref s2), .val (.ref b740), .val (.int (1 : Int32))] [(.int (1 : Int32)), (.int (1 : Int32))])) _
              refine own_back (fun t k => XS.icmpNo X797.here hx rfl (hb hby at_217) rfl (Jvm.Free.XT.ii_ne_f (by decide)) k) ?_
              show OwnGo p e below (T797.setTop (mkF m 220 #[.val (.int p1), .val (.int p2), .val (.int p3), .val (.int p4), .val (.int p5), .val (.int (3 : Int32)), .val (.int (0 : Int32)), .val (.ref am636), .val (.ref s0), .val (.ref s1), .val (.ref s2), .val (.ref b740), .val (.int (1 : Int32))] [])) _
              refine own_back (fun t k => XS.iconst X797.here hx rfl (hb hby at_220) k) ?_
              show OwnGo p e below (T797.setTop (mkF m 221 #[.val (.int p1), .val (.int p2), .val (.int p3), .val (.int p4), .val (.int p5), .val (.int (3 : Int32)), .val (.int (0 : Int32)), .val (.ref am636), .val (.ref s0), .val (.ref s1), .val (.ref s2), .val (.ref b740), .val (.int (1 : Int32))] [(.int (1 : Int32))])) _
              refine own_back (fun t k => XS.goto X797.here hx rfl (pc0 := 221) (pc' := 225) rfl (hb hby at_221) (by decide) (by decide) k) ?_
              show OwnGo p e below (T797.setTop (mkF m 225 #[.val (.int p1), .val (.int p2), .val (.int p3), .val (.int p4), .val (.int p5), .val (.int (3 : Int32)), .val (.int (0 : Int32)), .val (.ref am636), .val (.ref s0), .val (.ref s1), .val (.ref s2), .val (.ref b740), .val (.int (1 : Int32))] [(.int (1 : Int32))])) _
              refine own_retNW X797 hx Bd.notSynchronized (t := .boolean) (z := (1 : Int32)) Bd.returns (by simp) rfl hSj643 hk788 hZj643 hEL (hh ▸ CR787) (hb hby at_225) hh797 (Nat.le_of_ble_eq_true rfl) (Nat.le_of_ble_eq_true rfl) ?_
              exact ⟨rfl, N797⟩
            · obtain ⟨cq798, kq798, q798a, q798b, q798c⟩ := isOf hZj643 e783 f789.exa
              obtain ⟨_, _, ⟨T798, L798, k798, n798⟩, -, X798, ⟨Lc798, hQ798, l798, y798, z798⟩, st798⟩ := X783.virtualBack hx (y := (⟨"java/lang/String", "equals", "(Ljava/lang/Object;)Z"⟩ : MethodName)) (z := (⟨"java/lang/String", "equals", "(Ljava/lang/Object;)Z"⟩ : MethodName)) hownj643 (mvT hZj643 (hw _ (List.mem_of_getElem? (i := 47) rfl))) (mvT hZj643 (hw _ (List.mem_of_getElem? (i := 40) rfl))) (notFace_of_selects (args := #[]) (mvT hZj643 (hw _ (List.mem_of_getElem? (i := 42) rfl)))) (mvT hZj643 (hw _ (List.mem_of_getElem? (i := 42) rfl))) (mvT hZj643 (hw _ (List.mem_of_getElem? (i := 41) rfl))) (by decide) (own_backN (W := 0) (rm_seq l Z a0 hw [] am636 s0 (own_mk p1) u0 cz h783 n0 Zs786 O784 f789 f790 SC hcz) hZj643 (hw _ (List.mem_of_getElem? (i := 43) rfl)) (hw _ (List.mem_of_getElem? (i := 6) rfl)) (by decide) (by decide)) q798a q798c (g := (mkF m 163 #[.val (.int p1), .val (.int p2), .val (.int p3), .val (.int p4), .val (.int p5), .val (.int (3 : Int32)), .val (.int (0 : Int32)), .val (.ref am636), .val (.ref s0), .val (.ref s1), .val (.ref s2), .val (.ref b740), .val (.int (0 : Int32))] [(.ref s0), (.ref am636)])) rfl (by rw [hml]; rfl) (Steps.refl _) (argsL := [(.ref s0)]) (rest := []) (lenOf lw_pd2 rfl) rfl (by show 2 * 0 + _ ≤ _; exact Nat.le_of_eq rfl) (hb hby at_163) (fun _ _ => ⟨rfl, e783, Nat.le_of_ble_eq_true rfl, Nat.le_of_ble_eq_true rfl⟩)
              dsimp only [Pt.U, Pt.locs, Pt.cells, Pt.slots] at X798 l798 y798 z798 st798 hQ798
              subst l798 y798 z798
              rw [if_neg hq0] at hQ798
              obtain ⟨rfl, N798q, hh798⟩ := hQ798
              refine own_seq st798 ?_
              have N798 := Fr.app N795 N798q
              show OwnGo p e below (T798.setTop (mkF m 166 #[.val (.int p1), .val (.int p2), .val (.int p3), .val (.int p4), .val (.int p5), .val (.int (3 : Int32)), .val (.int (0 : Int32)), .val (.ref am636), .val (.ref s0), .val (.ref s1), .val (.ref s2), .val (.ref b740), .val (.int (0 : Int32))] [(.int (0 : Int32))])) _
              refine own_back (fun t k => XS.ifNo X798.here hx rfl (hb hby at_166) rfl (Jvm.Free.XT.i0_ne_f (by decide)) k) ?_
              show OwnGo p e below (T798.setTop (mkF m 169 #[.val (.int p1), .val (.int p2), .val (.int p3), .val (.int p4), .val (.int p5), .val (.int (3 : Int32)), .val (.int (0 : Int32)), .val (.ref am636), .val (.ref s0), .val (.ref s1), .val (.ref s2), .val (.ref b740), .val (.int (0 : Int32))] [])) _
              refine own_back (fun t k => XS.iload X798.here hx rfl (hb hby at_169) rfl k) ?_
              show OwnGo p e below (T798.setTop (mkF m 171 #[.val (.int p1), .val (.int p2), .val (.int p3), .val (.int p4), .val (.int p5), .val (.int (3 : Int32)), .val (.int (0 : Int32)), .val (.ref am636), .val (.ref s0), .val (.ref s1), .val (.ref s2), .val (.ref b740), .val (.int (0 : Int32))] [(.int (3 : Int32))])) _
              refine own_back (fun t k => XS.iconst X798.here hx rfl (hb hby at_171) k) ?_
              show OwnGo p e below (T798.setTop (mkF m 172 #[.val (.int p1), .val (.int p2), .val (.int p3), .val (.int p4), .val (.int p5), .val (.int (3 : Int32)), .val (.int (0 : Int32)), .val (.ref am636), .val (.ref s0), .val (.ref s1), .val (.ref s2), .val (.ref b740), .val (.int (0 : Int32))] [(.int (1 : Int32)), (.int (3 : Int32))])) _
              refine own_back (fun t k => XS.icmpNo X798.here hx rfl (hb hby at_172) rfl (Jvm.Free.XT.ii_le_f (by decide)) k) ?_
              show OwnGo p e below (T798.setTop (mkF m 175 #[.val (.int p1), .val (.int p2), .val (.int p3), .val (.int p4), .val (.int p5), .val (.int (3 : Int32)), .val (.int (0 : Int32)), .val (.ref am636), .val (.ref s0), .val (.ref s1), .val (.ref s2), .val (.ref b740), .val (.int (0 : Int32))] [])) _
              refine own_back (fun t k => XS.aload X798.here hx rfl (hb hby at_175) rfl rfl k) ?_
              show OwnGo p e below (T798.setTop (mkF m 177 #[.val (.int p1), .val (.int p2), .val (.int p3), .val (.int p4), .val (.int p5), .val (.int (3 : Int32)), .val (.int (0 : Int32)), .val (.ref am636), .val (.ref s0), .val (.ref s1), .val (.ref s2), .val (.ref b740), .val (.int (0 : Int32))] [(.ref am636)])) _
              refine own_back (fun t k => XS.aload X798.here hx rfl (hb hby at_177) rfl rfl k) ?_
              show OwnGo p e below (T798.setTop (mkF m 179 #[.val (.int p1), .val (.int p2), .val (.int p3), .val (.int p4), .val (.int p5), .val (.int (3 : Int32)), .val (.int (0 : Int32)), .val (.ref am636), .val (.ref s0), .val (.ref s1), .val (.ref s2), .val (.ref b740), .val (.int (0 : Int32))] [(.ref s1), (.ref am636)])) _
              by_cases hq1 : (own_mk p1) = u1
              · obtain ⟨cq799, kq799, q799a, q799b, q799c⟩ := isOf hZj643 hh798 f789.exa
                obtain ⟨_, _, ⟨T799, L799, k799, n799⟩, -, X799, ⟨Lc799, hQ799, l799, y799, z799⟩, st799⟩ := X798.virtualBack hx (y := (⟨"java/lang/String", "equals", "(Ljava/lang/Object;)Z"⟩ : MethodName)) (z := (⟨"java/lang/String", "equals", "(Ljava/lang/Object;)Z"⟩ : MethodName)) hownj643 (mvT hZj643 (hw _ (List.mem_of_getElem? (i := 47) rfl))) (mvT hZj643 (hw _ (List.mem_of_getElem? (i := 40) rfl))) (notFace_of_selects (args := #[]) (mvT hZj643 (hw _ (List.mem_of_getElem? (i := 42) rfl)))) (mvT hZj643 (hw _ (List.mem_of_getElem? (i := 42) rfl))) (mvT hZj643 (hw _ (List.mem_of_getElem? (i := 41) rfl))) (by decide) (own_backN (W := 0) (rm_seq l Z a0 hw [] am636 s1 (own_mk p1) u1 cz h783 n0 Zs786 O784 f789 f791 SC hcz) hZj643 (hw _ (List.mem_of_getElem? (i := 43) rfl)) (hw _ (List.mem_of_getElem? (i := 6) rfl)) (by decide) (by decide)) q799a q799c (g := (mkF m 179 #[.val (.int p1), .val (.int p2), .val (.int p3), .val (.int p4), .val (.int p5), .val (.int (3 : Int32)), .val (.int (0 : Int32)), .val (.ref am636), .val (.ref s0), .val (.ref s1), .val (.ref s2), .val (.ref b740), .val (.int (0 : Int32))] [(.ref s1), (.ref am636)])) rfl (by rw [hml]; rfl) (Steps.refl _) (argsL := [(.ref s1)]) (rest := []) (lenOf lw_pd2 rfl) rfl (by show 2 * 0 + _ ≤ _; exact Nat.le_of_eq rfl) (hb hby at_179) (fun _ _ => ⟨rfl, hh798, Nat.le_of_ble_eq_true rfl, Nat.le_of_ble_eq_true rfl⟩)
                dsimp only [Pt.U, Pt.locs, Pt.cells, Pt.slots] at X799 l799 y799 z799 st799 hQ799
                subst l799 y799 z799
                rw [if_pos hq1] at hQ799
                obtain ⟨rfl, N799q, hh799⟩ := hQ799
                refine own_seq st799 ?_
                have N799 := Fr.app N798 N799q
                show OwnGo p e below (T799.setTop (mkF m 182 #[.val (.int p1), .val (.int p2), .val (.int p3), .val (.int p4), .val (.int p5), .val (.int (3 : Int32)), .val (.int (0 : Int32)), .val (.ref am636), .val (.ref s0), .val (.ref s1), .val (.ref s2), .val (.ref b740), .val (.int (0 : Int32))] [(.int (1 : Int32))])) _
                refine own_back (fun t k => XS.ifYes X799.here hx rfl (pc0 := 182) (pc' := 201) rfl (hb hby at_182) rfl (Jvm.Free.XT.i0_ne_t (by decide)) (by decide) (by decide) k) ?_
                show OwnGo p e below (T799.setTop (mkF m 201 #[.val (.int p1), .val (.int p2), .val (.int p3), .val (.int p4), .val (.int p5), .val (.int (3 : Int32)), .val (.int (0 : Int32)), .val (.ref am636), .val (.ref s0), .val (.ref s1), .val (.ref s2), .val (.ref b740), .val (.int (0 : Int32))] [])) _
                refine own_back (fun t k => XS.iconst X799.here hx rfl (hb hby at_201) k) ?_
                show OwnGo p e below (T799.setTop (mkF m 202 #[.val (.int p1), .val (.int p2), .val (.int p3), .val (.int p4), .val (.int p5), .val (.int (3 : Int32)), .val (.int (0 : Int32)), .val (.ref am636), .val (.ref s0), .val (.ref s1), .val (.ref s2), .val (.ref b740), .val (.int (0 : Int32))] [(.int (1 : Int32))])) _
                refine own_back (fun t k => XS.goto X799.here hx rfl (pc0 := 202) (pc' := 206) rfl (hb hby at_202) (by decide) (by decide) k) ?_
                show OwnGo p e below (T799.setTop (mkF m 206 #[.val (.int p1), .val (.int p2), .val (.int p3), .val (.int p4), .val (.int p5), .val (.int (3 : Int32)), .val (.int (0 : Int32)), .val (.ref am636), .val (.ref s0), .val (.ref s1), .val (.ref s2), .val (.ref b740), .val (.int (0 : Int32))] [(.int (1 : Int32))])) _
                refine own_back (fun t k => XS.istore X799.here hx rfl (hb hby at_206) rfl (l' := #[.val (.int p1), .val (.int p2), .val (.int p3), .val (.int p4), .val (.int p5), .val (.int (3 : Int32)), .val (.int (0 : Int32)), .val (.ref am636), .val (.ref s0), .val (.ref s1), .val (.ref s2), .val (.ref b740), .val (.int (1 : Int32))]) rfl k) ?_
                show OwnGo p e below (T799.setTop (mkF m 208 #[.val (.int p1), .val (.int p2), .val (.int p3), .val (.int p4), .val (.int p5), .val (.int (3 : Int32)), .val (.int (0 : Int32)), .val (.ref am636), .val (.ref s0), .val (.ref s1), .val (.ref s2), .val (.ref b740), .val (.int (1 : Int32))] [])) _
                refine own_back (fun t k => XS.aload X799.here hx rfl (hb hby at_208) rfl rfl k) ?_
                show OwnGo p e below (T799.setTop (mkF m 210 #[.val (.int p1), .val (.int p2), .val (.int p3), .val (.int p4), .val (.int p5), .val (.int (3 : Int32)), .val (.int (0 : Int32)), .val (.ref am636), .val (.ref s0), .val (.ref s1), .val (.ref s2), .val (.ref b740), .val (.int (1 : Int32))] [(.ref am636)])) _
                refine own_back (fun t k => XS.aload X799.here hx rfl (hb hby at_210) rfl rfl k) ?_
                show OwnGo p e below (T799.setTop (mkF m 212 #[.val (.int p1), .val (.int p2), .val (.int p3), .val (.int p4), .val (.int p5), .val (.int (3 : Int32)), .val (.int (0 : Int32)), .val (.ref am636), .val (.ref s0), .val (.ref s1), .val (.ref s2), .val (.ref b740), .val (.int (1 : Int32))] [(.ref b740), (.ref am636)])) _
                obtain ⟨_, _, ⟨T800, L800, k800, n800⟩, -, X800, ⟨Lc800, hQ800, l800, y800, z800⟩, st800⟩ := Jvm.LawKit.callS X799 hx (y := (⟨"com/example/lease/lease/cli/OptionValues", "oneOf", "(Ljava/lang/String;[Ljava/lang/String;)Z"⟩ : MethodName)) hownj643 (mvT hZj643 (hw _ (List.mem_of_getElem? (i := 35) rfl))) (mvT hZj643 (hw _ (List.mem_of_getElem? (i := 36) rfl))) (mvT hZj643 (hw _ (List.mem_of_getElem? (i := 37) rfl))) (mvT hZj643 (hw _ (List.mem_of_getElem? (i := 38) rfl))) (by decide) (own_backN (W := 0) (rm_oo3 l Z a0 hw [] am636 (own_mk p1) b740 k740 s0 s1 s2 u0 u1 u2 cz h783 n0 Zs786 O784 f789 V794 f790 f791 f792 SC hcz) hZj643 (hw _ (List.mem_of_getElem? (i := 38) rfl)) (hw _ (List.mem_of_getElem? (i := 37) rfl)) (by decide) (by decide)) (g := (mkF m 212 #[.val (.int p1), .val (.int p2), .val (.int p3), .val (.int p4), .val (.int p5), .val (.int (3 : Int32)), .val (.int (0 : Int32)), .val (.ref am636), .val (.ref s0), .val (.ref s1), .val (.ref s2), .val (.ref b740), .val (.int (1 : Int32))] [(.ref b740), (.ref am636)])) rfl (by rw [hml]; rfl) (argsL := [(.ref am636), (.ref b740)]) (rest := []) (lenOf lw_pd0 rfl) rfl (by show 2 * 0 + _ ≤ _; exact Nat.le_of_eq rfl) (hb hby at_212) (fun _ _ => ⟨rfl, hh799, Nat.le_of_ble_eq_true rfl, Nat.le_of_ble_eq_true rfl⟩)
                dsimp only [Pt.U, Pt.locs, Pt.cells, Pt.slots] at X800 l800 y800 z800 st800 hQ800
                subst l800 y800 z800
                rw [if_pos (Or.inr (Or.inl (hq1.symm)))] at hQ800
                obtain ⟨rfl, N800q, hh800⟩ := hQ800
                refine own_back st800 ?_
                have N800 := Fr.app N799 N800q
                show OwnGo p e below (T800.setTop (mkF m 215 #[.val (.int p1), .val (.int p2), .val (.int p3), .val (.int p4), .val (.int p5), .val (.int (3 : Int32)), .val (.int (0 : Int32)), .val (.ref am636), .val (.ref s0), .val (.ref s1), .val (.ref s2), .val (.ref b740), .val (.int (1 : Int32))] [(.int (1 : Int32))])) _
                refine own_back (fun t k => XS.iload X800.here hx rfl (hb hby at_215) rfl k) ?_
                show OwnGo p e below (T800.setTop (mkF m 217 #[.val (.int p1), .val (.int p2), .val (.int p3), .val (.int p4), .val (.int p5), .val (.int (3 : Int32)), .val (.int (0 : Int32)), .val (.ref am636), .val (.ref s0), .val (.ref s1), .val (.ref s2), .val (.ref b740), .val (.int (1 : Int32))] [(.int (1 : Int32)), (.int (1 : Int32))])) _
                refine own_back (fun t k => XS.icmpNo X800.here hx rfl (hb hby at_217) rfl (Jvm.Free.XT.ii_ne_f (by decide)) k) ?_
                show OwnGo p e below (T800.setTop (mkF m 220 #[.val (.int p1), .val (.int p2), .val (.int p3), .val (.int p4), .val (.int p5), .val (.int (3 : Int32)), .val (.int (0 : Int32)), .val (.ref am636), .val (.ref s0), .val (.ref s1), .val (.ref s2), .val (.ref b740), .val (.int (1 : Int32))] [])) _
                refine own_back (fun t k => XS.iconst X800.here hx rfl (hb hby at_220) k) ?_
                show OwnGo p e below (T800.setTop (mkF m 221 #[.val (.int p1), .val (.int p2), .val (.int p3), .val (.int p4), .val (.int p5), .val (.int (3 : Int32)), .val (.int (0 : Int32)), .val (.ref am636), .val (.ref s0), .val (.ref s1), .val (.ref s2), .val (.ref b740), .val (.int (1 : Int32))] [(.int (1 : Int32))])) _
                refine own_back (fun t k => XS.goto X800.here hx rfl (pc0 := 221) (pc' := 225) rfl (hb hby at_221) (by decide) (by decide) k) ?_
                show OwnGo p e below (T800.setTop (mkF m 225 #[.val (.int p1), .val (.int p2), .val (.int p3), .val (.int p4), .val (.int p5), .val (.int (3 : Int32)), .val (.int (0 : Int32)), .val (.ref am636), .val (.ref s0), .val (.ref s1), .val (.ref s2), .val (.ref b740), .val (.int (1 : Int32))] [(.int (1 : Int32))])) _
                refine own_retNW X800 hx Bd.notSynchronized (t := .boolean) (z := (1 : Int32)) Bd.returns (by simp) rfl hSj643 hk788 hZj643 hEL (hh ▸ CR787) (hb hby at_225) hh800 (Nat.le_of_ble_eq_true rfl) (Nat.le_of_ble_eq_true rfl) ?_
                exact ⟨rfl, N800⟩
              · obtain ⟨cq801, kq801, q801a, q801b, q801c⟩ := isOf hZj643 hh798 f789.exa
                obtain ⟨_, _, ⟨T801, L801, k801, n801⟩, -, X801, ⟨Lc801, hQ801, l801, y801, z801⟩, st801⟩ := X798.virtualBack hx (y := (⟨"java/lang/String", "equals", "(Ljava/lang/Object;)Z"⟩ : MethodName)) (z := (⟨"java/lang/String", "equals", "(Ljava/lang/Object;)Z"⟩ : MethodName)) hownj643 (mvT hZj643 (hw _ (List.mem_of_getElem? (i := 47) rfl))) (mvT hZj643 (hw _ (List.mem_of_getElem? (i := 40) rfl))) (notFace_of_selects (args := #[]) (mvT hZj643 (hw _ (List.mem_of_getElem? (i := 42) rfl)))) (mvT hZj643 (hw _ (List.mem_of_getElem? (i := 42) rfl))) (mvT hZj643 (hw _ (List.mem_of_getElem? (i := 41) rfl))) (by decide) (own_backN (W := 0) (rm_seq l Z a0 hw [] am636 s1 (own_mk p1) u1 cz h783 n0 Zs786 O784 f789 f791 SC hcz) hZj643 (hw _ (List.mem_of_getElem? (i := 43) rfl)) (hw _ (List.mem_of_getElem? (i := 6) rfl)) (by decide) (by decide)) q801a q801c (g := (mkF m 179 #[.val (.int p1), .val (.int p2), .val (.int p3), .val (.int p4), .val (.int p5), .val (.int (3 : Int32)), .val (.int (0 : Int32)), .val (.ref am636), .val (.ref s0), .val (.ref s1), .val (.ref s2), .val (.ref b740), .val (.int (0 : Int32))] [(.ref s1), (.ref am636)])) rfl (by rw [hml]; rfl) (Steps.refl _) (argsL := [(.ref s1)]) (rest := []) (lenOf lw_pd2 rfl) rfl (by show 2 * 0 + _ ≤ _; exact Nat.le_of_eq rfl) (hb hby at_179) (fun _ _ => ⟨rfl, hh798, Nat.le_of_ble_eq_true rfl, Nat.le_of_ble_eq_true rfl⟩)
                dsimp only [Pt.U, Pt.locs, Pt.cells, Pt.slots] at X801 l801 y801 z801 st801 hQ801
                subst l801 y801 z801
                rw [if_neg hq1] at hQ801
                obtain ⟨rfl, N801q, hh801⟩ := hQ801
                refine own_seq st801 ?_
                have N801 := Fr.app N798 N801q
                show OwnGo p e below (T801.setTop (mkF m 182 #[.val (.int p1), .val (.int p2), .val (.int p3), .val (.int p4), .val (.int p5), .val (.int (3 : Int32)), .val (.int (0 : Int32)), .val (.ref am636), .val (.ref s0), .val (.ref s1), .val (.ref s2), .val (.ref b740), .val (.int (0 : Int32))] [(.int (0 : Int32))])) _
                refine own_back (fun t k => XS.ifNo X801.here hx rfl (hb hby at_182) rfl (Jvm.Free.XT.i0_ne_f (by decide)) k) ?_
                show OwnGo p e below (T801.setTop (mkF m 185 #[.val (.int p1), .val (.int p2), .val (.int p3), .val (.int p4), .val (.int p5), .val (.int (3 : Int32)), .val (.int (0 : Int32)), .val (.ref am636), .val (.ref s0), .val (.ref s1), .val (.ref s2), .val (.ref b740), .val (.int (0 : Int32))] [])) _
                refine own_back (fun t k => XS.iload X801.here hx rfl (hb hby at_185) rfl k) ?_
                show OwnGo p e below (T801.setTop (mkF m 187 #[.val (.int p1), .val (.int p2), .val (.int p3), .val (.int p4), .val (.int p5), .val (.int (3 : Int32)), .val (.int (0 : Int32)), .val (.ref am636), .val (.ref s0), .val (.ref s1), .val (.ref s2), .val (.ref b740), .val (.int (0 : Int32))] [(.int (3 : Int32))])) _
                refine own_back (fun t k => XS.iconst X801.here hx rfl (hb hby at_187) k) ?_
                show OwnGo p e below (T801.setTop (mkF m 188 #[.val (.int p1), .val (.int p2), .val (.int p3), .val (.int p4), .val (.int p5), .val (.int (3 : Int32)), .val (.int (0 : Int32)), .val (.ref am636), .val (.ref s0), .val (.ref s1), .val (.ref s2), .val (.ref b740), .val (.int (0 : Int32))] [(.int (2 : Int32)), (.int (3 : Int32))])) _
                refine own_back (fun t k => XS.icmpNo X801.here hx rfl (hb hby at_188) rfl (Jvm.Free.XT.ii_le_f (by decide)) k) ?_
                show OwnGo p e below (T801.setTop (mkF m 191 #[.val (.int p1), .val (.int p2), .val (.int p3), .val (.int p4), .val (.int p5), .val (.int (3 : Int32)), .val (.int (0 : Int32)), .val (.ref am636), .val (.ref s0), .val (.ref s1), .val (.ref s2), .val (.ref b740), .val (.int (0 : Int32))] [])) _
                refine own_back (fun t k => XS.aload X801.here hx rfl (hb hby at_191) rfl rfl k) ?_
                show OwnGo p e below (T801.setTop (mkF m 193 #[.val (.int p1), .val (.int p2), .val (.int p3), .val (.int p4), .val (.int p5), .val (.int (3 : Int32)), .val (.int (0 : Int32)), .val (.ref am636), .val (.ref s0), .val (.ref s1), .val (.ref s2), .val (.ref b740), .val (.int (0 : Int32))] [(.ref am636)])) _
                refine own_back (fun t k => XS.aload X801.here hx rfl (hb hby at_193) rfl rfl k) ?_
                show OwnGo p e below (T801.setTop (mkF m 195 #[.val (.int p1), .val (.int p2), .val (.int p3), .val (.int p4), .val (.int p5), .val (.int (3 : Int32)), .val (.int (0 : Int32)), .val (.ref am636), .val (.ref s0), .val (.ref s1), .val (.ref s2), .val (.ref b740), .val (.int (0 : Int32))] [(.ref s2), (.ref am636)])) _
                by_cases hq2 : (own_mk p1) = u2
                · obtain ⟨cq802, kq802, q802a, q802b, q802c⟩ := isOf hZj643 hh801 f789.exa
                  obtain ⟨_, _, ⟨T802, L802, k802, n802⟩, -, X802, ⟨Lc802, hQ802, l802, y802, z802⟩, st802⟩ := X801.virtualBack hx (y := (⟨"java/lang/String", "equals", "(Ljava/lang/Object;)Z"⟩ : MethodName)) (z := (⟨"java/lang/String", "equals", "(Ljava/lang/Object;)Z"⟩ : MethodName)) hownj643 (mvT hZj643 (hw _ (List.mem_of_getElem? (i := 47) rfl))) (mvT hZj643 (hw _ (List.mem_of_getElem? (i := 40) rfl))) (notFace_of_selects (args := #[]) (mvT hZj643 (hw _ (List.mem_of_getElem? (i := 42) rfl)))) (mvT hZj643 (hw _ (List.mem_of_getElem? (i := 42) rfl))) (mvT hZj643 (hw _ (List.mem_of_getElem? (i := 41) rfl))) (by decide) (own_backN (W := 0) (rm_seq l Z a0 hw [] am636 s2 (own_mk p1) u2 cz h783 n0 Zs786 O784 f789 f792 SC hcz) hZj643 (hw _ (List.mem_of_getElem? (i := 43) rfl)) (hw _ (List.mem_of_getElem? (i := 6) rfl)) (by decide) (by decide)) q802a q802c (g := (mkF m 195 #[.val (.int p1), .val (.int p2), .val (.int p3), .val (.int p4), .val (.int p5), .val (.int (3 : Int32)), .val (.int (0 : Int32)), .val (.ref am636), .val (.ref s0), .val (.ref s1), .val (.ref s2), .val (.ref b740), .val (.int (0 : Int32))] [(.ref s2), (.ref am636)])) rfl (by rw [hml]; rfl) (Steps.refl _) (argsL := [(.ref s2)]) (rest := []) (lenOf lw_pd2 rfl) rfl (by show 2 * 0 + _ ≤ _; exact Nat.le_of_eq rfl) (hb hby at_195) (fun _ _ => ⟨rfl, hh801, Nat.le_of_ble_eq_true rfl, Nat.le_of_ble_eq_true rfl⟩)
                  dsimp only [Pt.U, Pt.locs, Pt.cells, Pt.slots] at X802 l802 y802 z802 st802 hQ802
                  subst l802 y802 z802
                  rw [if_pos hq2] at hQ802
                  obtain ⟨rfl, N802q, hh802⟩ := hQ802
                  refine own_seq st802 ?_
                  have N802 := Fr.app N801 N802q
                  show OwnGo p e below (T802.setTop (mkF m 198 #[.val (.int p1), .val (.int p2), .val (.int p3), .val (.int p4), .val (.int p5), .val (.int (3 : Int32)), .val (.int (0 : Int32)), .val (.ref am636), .val (.ref s0), .val (.ref s1), .val (.ref s2), .val (.ref b740), .val (.int (0 : Int32))] [(.int (1 : Int32))])) _
                  refine own_back (fun t k => XS.ifNo X802.here hx rfl (hb hby at_198) rfl (Jvm.Free.XT.i0_eq_f (by decide)) k) ?_
                  show OwnGo p e below (T802.setTop (mkF m 201 #[.val (.int p1), .val (.int p2), .val (.int p3), .val (.int p4), .val (.int p5), .val (.int (3 : Int32)), .val (.int (0 : Int32)), .val (.ref am636), .val (.ref s0), .val (.ref s1), .val (.ref s2), .val (.ref b740), .val (.int (0 : Int32))] [])) _
                  refine own_back (fun t k => XS.iconst X802.here hx rfl (hb hby at_201) k) ?_
                  show OwnGo p e below (T802.setTop (mkF m 202 #[.val (.int p1), .val (.int p2), .val (.int p3), .val (.int p4), .val (.int p5), .val (.int (3 : Int32)), .val (.int (0 : Int32)), .val (.ref am636), .val (.ref s0), .val (.ref s1), .val (.ref s2), .val (.ref b740), .val (.int (0 : Int32))] [(.int (1 : Int32))])) _
                  refine own_back (fun t k => XS.goto X802.here hx rfl (pc0 := 202) (pc' := 206) rfl (hb hby at_202) (by decide) (by decide) k) ?_
                  show OwnGo p e below (T802.setTop (mkF m 206 #[.val (.int p1), .val (.int p2), .val (.int p3), .val (.int p4), .val (.int p5), .val (.int (3 : Int32)), .val (.int (0 : Int32)), .val (.ref am636), .val (.ref s0), .val (.ref s1), .val (.ref s2), .val (.ref b740), .val (.int (0 : Int32))] [(.int (1 : Int32))])) _
                  refine own_back (fun t k => XS.istore X802.here hx rfl (hb hby at_206) rfl (l' := #[.val (.int p1), .val (.int p2), .val (.int p3), .val (.int p4), .val (.int p5), .val (.int (3 : Int32)), .val (.int (0 : Int32)), .val (.ref am636), .val (.ref s0), .val (.ref s1), .val (.ref s2), .val (.ref b740), .val (.int (1 : Int32))]) rfl k) ?_
                  show OwnGo p e below (T802.setTop (mkF m 208 #[.val (.int p1), .val (.int p2), .val (.int p3), .val (.int p4), .val (.int p5), .val (.int (3 : Int32)), .val (.int (0 : Int32)), .val (.ref am636), .val (.ref s0), .val (.ref s1), .val (.ref s2), .val (.ref b740), .val (.int (1 : Int32))] [])) _
                  refine own_back (fun t k => XS.aload X802.here hx rfl (hb hby at_208) rfl rfl k) ?_
                  show OwnGo p e below (T802.setTop (mkF m 210 #[.val (.int p1), .val (.int p2), .val (.int p3), .val (.int p4), .val (.int p5), .val (.int (3 : Int32)), .val (.int (0 : Int32)), .val (.ref am636), .val (.ref s0), .val (.ref s1), .val (.ref s2), .val (.ref b740), .val (.int (1 : Int32))] [(.ref am636)])) _
                  refine own_back (fun t k => XS.aload X802.here hx rfl (hb hby at_210) rfl rfl k) ?_
                  show OwnGo p e below (T802.setTop (mkF m 212 #[.val (.int p1), .val (.int p2), .val (.int p3), .val (.int p4), .val (.int p5), .val (.int (3 : Int32)), .val (.int (0 : Int32)), .val (.ref am636), .val (.ref s0), .val (.ref s1), .val (.ref s2), .val (.ref b740), .val (.int (1 : Int32))] [(.ref b740), (.ref am636)])) _
                  obtain ⟨_, _, ⟨T803, L803, k803, n803⟩, -, X803, ⟨Lc803, hQ803, l803, y803, z803⟩, st803⟩ := Jvm.LawKit.callS X802 hx (y := (⟨"com/example/lease/lease/cli/OptionValues", "oneOf", "(Ljava/lang/String;[Ljava/lang/String;)Z"⟩ : MethodName)) hownj643 (mvT hZj643 (hw _ (List.mem_of_getElem? (i := 35) rfl))) (mvT hZj643 (hw _ (List.mem_of_getElem? (i := 36) rfl))) (mvT hZj643 (hw _ (List.mem_of_getElem? (i := 37) rfl))) (mvT hZj643 (hw _ (List.mem_of_getElem? (i := 38) rfl))) (by decide) (own_backN (W := 0) (rm_oo3 l Z a0 hw [] am636 (own_mk p1) b740 k740 s0 s1 s2 u0 u1 u2 cz h783 n0 Zs786 O784 f789 V794 f790 f791 f792 SC hcz) hZj643 (hw _ (List.mem_of_getElem? (i := 38) rfl)) (hw _ (List.mem_of_getElem? (i := 37) rfl)) (by decide) (by decide)) (g := (mkF m 212 #[.val (.int p1), .val (.int p2), .val (.int p3), .val (.int p4), .val (.int p5), .val (.int (3 : Int32)), .val (.int (0 : Int32)), .val (.ref am636), .val (.ref s0), .val (.ref s1), .val (.ref s2), .val (.ref b740), .val (.int (1 : Int32))] [(.ref b740), (.ref am636)])) rfl (by rw [hml]; rfl) (argsL := [(.ref am636), (.ref b740)]) (rest := []) (lenOf lw_pd0 rfl) rfl (by show 2 * 0 + _ ≤ _; exact Nat.le_of_eq rfl) (hb hby at_212) (fun _ _ => ⟨rfl, hh802, Nat.le_of_ble_eq_true rfl, Nat.le_of_ble_eq_true rfl⟩)
                  dsimp only [Pt.U, Pt.locs, Pt.cells, Pt.slots] at X803 l803 y803 z803 st803 hQ803
                  subst l803 y803 z803
                  rw [if_pos (Or.inr (Or.inr ((hq2.symm))))] at hQ803
                  obtain ⟨rfl, N803q, hh803⟩ := hQ803
                  refine own_back st803 ?_
                  have N803 := Fr.app N802 N803q
                  show OwnGo p e below (T803.setTop (mkF m 215 #[.val (.int p1), .val (.int p2), .val (.int p3), .val (.int p4), .val (.int p5), .val (.int (3 : Int32)), .val (.int (0 : Int32)), .val (.ref am636), .val (.ref s0), .val (.ref s1), .val (.ref s2), .val (.ref b740), .val (.int (1 : Int32))] [(.int (1 : Int32))])) _
                  refine own_back (fun t k => XS.iload X803.here hx rfl (hb hby at_215) rfl k) ?_
                  show OwnGo p e below (T803.setTop (mkF m 217 #[.val (.int p1), .val (.int p2), .val (.int p3), .val (.int p4), .val (.int p5), .val (.int (3 : Int32)), .val (.int (0 : Int32)), .val (.ref am636), .val (.ref s0), .val (.ref s1), .val (.ref s2), .val (.ref b740), .val (.int (1 : Int32))] [(.int (1 : Int32)), (.int (1 : Int32))])) _
                  refine own_back (fun t k => XS.icmpNo X803.here hx rfl (hb hby at_217) rfl (Jvm.Free.XT.ii_ne_f (by decide)) k) ?_
                  show OwnGo p e below (T803.setTop (mkF m 220 #[.val (.int p1), .val (.int p2), .val (.int p3), .val (.int p4), .val (.int p5), .val (.int (3 : Int32)), .val (.int (0 : Int32)), .val (.ref am636), .val (.ref s0), .val (.ref s1), .val (.ref s2), .val (.ref b740), .val (.int (1 : Int32))] [])) _
                  refine own_back (fun t k => XS.iconst X803.here hx rfl (hb hby at_220) k) ?_
                  show OwnGo p e below (T803.setTop (mkF m 221 #[.val (.int p1), .val (.int p2), .val (.int p3), .val (.int p4), .val (.int p5), .val (.int (3 : Int32)), .val (.int (0 : Int32)), .val (.ref am636), .val (.ref s0), .val (.ref s1), .val (.ref s2), .val (.ref b740), .val (.int (1 : Int32))] [(.int (1 : Int32))])) _
                  refine own_back (fun t k => XS.goto X803.here hx rfl (pc0 := 221) (pc' := 225) rfl (hb hby at_221) (by decide) (by decide) k) ?_
                  show OwnGo p e below (T803.setTop (mkF m 225 #[.val (.int p1), .val (.int p2), .val (.int p3), .val (.int p4), .val (.int p5), .val (.int (3 : Int32)), .val (.int (0 : Int32)), .val (.ref am636), .val (.ref s0), .val (.ref s1), .val (.ref s2), .val (.ref b740), .val (.int (1 : Int32))] [(.int (1 : Int32))])) _
                  refine own_retNW X803 hx Bd.notSynchronized (t := .boolean) (z := (1 : Int32)) Bd.returns (by simp) rfl hSj643 hk788 hZj643 hEL (hh ▸ CR787) (hb hby at_225) hh803 (Nat.le_of_ble_eq_true rfl) (Nat.le_of_ble_eq_true rfl) ?_
                  exact ⟨rfl, N803⟩
                · obtain ⟨cq804, kq804, q804a, q804b, q804c⟩ := isOf hZj643 hh801 f789.exa
                  obtain ⟨_, _, ⟨T804, L804, k804, n804⟩, -, X804, ⟨Lc804, hQ804, l804, y804, z804⟩, st804⟩ := X801.virtualBack hx (y := (⟨"java/lang/String", "equals", "(Ljava/lang/Object;)Z"⟩ : MethodName)) (z := (⟨"java/lang/String", "equals", "(Ljava/lang/Object;)Z"⟩ : MethodName)) hownj643 (mvT hZj643 (hw _ (List.mem_of_getElem? (i := 47) rfl))) (mvT hZj643 (hw _ (List.mem_of_getElem? (i := 40) rfl))) (notFace_of_selects (args := #[]) (mvT hZj643 (hw _ (List.mem_of_getElem? (i := 42) rfl)))) (mvT hZj643 (hw _ (List.mem_of_getElem? (i := 42) rfl))) (mvT hZj643 (hw _ (List.mem_of_getElem? (i := 41) rfl))) (by decide) (own_backN (W := 0) (rm_seq l Z a0 hw [] am636 s2 (own_mk p1) u2 cz h783 n0 Zs786 O784 f789 f792 SC hcz) hZj643 (hw _ (List.mem_of_getElem? (i := 43) rfl)) (hw _ (List.mem_of_getElem? (i := 6) rfl)) (by decide) (by decide)) q804a q804c (g := (mkF m 195 #[.val (.int p1), .val (.int p2), .val (.int p3), .val (.int p4), .val (.int p5), .val (.int (3 : Int32)), .val (.int (0 : Int32)), .val (.ref am636), .val (.ref s0), .val (.ref s1), .val (.ref s2), .val (.ref b740), .val (.int (0 : Int32))] [(.ref s2), (.ref am636)])) rfl (by rw [hml]; rfl) (Steps.refl _) (argsL := [(.ref s2)]) (rest := []) (lenOf lw_pd2 rfl) rfl (by show 2 * 0 + _ ≤ _; exact Nat.le_of_eq rfl) (hb hby at_195) (fun _ _ => ⟨rfl, hh801, Nat.le_of_ble_eq_true rfl, Nat.le_of_ble_eq_true rfl⟩)
                  dsimp only [Pt.U, Pt.locs, Pt.cells, Pt.slots] at X804 l804 y804 z804 st804 hQ804
                  subst l804 y804 z804
                  rw [if_neg hq2] at hQ804
                  obtain ⟨rfl, N804q, hh804⟩ := hQ804
                  refine own_seq st804 ?_
                  have N804 := Fr.app N801 N804q
                  show OwnGo p e below (T804.setTop (mkF m 198 #[.val (.int p1), .val (.int p2), .val (.int p3), .val (.int p4), .val (.int p5), .val (.int (3 : Int32)), .val (.int (0 : Int32)), .val (.ref am636), .val (.ref s0), .val (.ref s1), .val (.ref s2), .val (.ref b740), .val (.int (0 : Int32))] [(.int (0 : Int32))])) _
                  refine own_back (fun t k => XS.ifYes X804.here hx rfl (pc0 := 198) (pc' := 205) rfl (hb hby at_198) rfl (Jvm.Free.XT.i0_eq_t (by decide)) (by decide) (by decide) k) ?_
                  show OwnGo p e below (T804.setTop (mkF m 205 #[.val (.int p1), .val (.int p2), .val (.int p3), .val (.int p4), .val (.int p5), .val (.int (3 : Int32)), .val (.int (0 : Int32)), .val (.ref am636), .val (.ref s0), .val (.ref s1), .val (.ref s2), .val (.ref b740), .val (.int (0 : Int32))] [])) _
                  refine own_back (fun t k => XS.iconst X804.here hx rfl (hb hby at_205) k) ?_
                  show OwnGo p e below (T804.setTop (mkF m 206 #[.val (.int p1), .val (.int p2), .val (.int p3), .val (.int p4), .val (.int p5), .val (.int (3 : Int32)), .val (.int (0 : Int32)), .val (.ref am636), .val (.ref s0), .val (.ref s1), .val (.ref s2), .val (.ref b740), .val (.int (0 : Int32))] [(.int (0 : Int32))])) _
                  refine own_back (fun t k => XS.istore X804.here hx rfl (hb hby at_206) rfl (l' := #[.val (.int p1), .val (.int p2), .val (.int p3), .val (.int p4), .val (.int p5), .val (.int (3 : Int32)), .val (.int (0 : Int32)), .val (.ref am636), .val (.ref s0), .val (.ref s1), .val (.ref s2), .val (.ref b740), .val (.int (0 : Int32))]) rfl k) ?_
                  show OwnGo p e below (T804.setTop (mkF m 208 #[.val (.int p1), .val (.int p2), .val (.int p3), .val (.int p4), .val (.int p5), .val (.int (3 : Int32)), .val (.int (0 : Int32)), .val (.ref am636), .val (.ref s0), .val (.ref s1), .val (.ref s2), .val (.ref b740), .val (.int (0 : Int32))] [])) _
                  refine own_back (fun t k => XS.aload X804.here hx rfl (hb hby at_208) rfl rfl k) ?_
                  show OwnGo p e below (T804.setTop (mkF m 210 #[.val (.int p1), .val (.int p2), .val (.int p3), .val (.int p4), .val (.int p5), .val (.int (3 : Int32)), .val (.int (0 : Int32)), .val (.ref am636), .val (.ref s0), .val (.ref s1), .val (.ref s2), .val (.ref b740), .val (.int (0 : Int32))] [(.ref am636)])) _
                  refine own_back (fun t k => XS.aload X804.here hx rfl (hb hby at_210) rfl rfl k) ?_
                  show OwnGo p e below (T804.setTop (mkF m 212 #[.val (.int p1), .val (.int p2), .val (.int p3), .val (.int p4), .val (.int p5), .val (.int (3 : Int32)), .val (.int (0 : Int32)), .val (.ref am636), .val (.ref s0), .val (.ref s1), .val (.ref s2), .val (.ref b740), .val (.int (0 : Int32))] [(.ref b740), (.ref am636)])) _
                  obtain ⟨_, _, ⟨T805, L805, k805, n805⟩, -, X805, ⟨Lc805, hQ805, l805, y805, z805⟩, st805⟩ := Jvm.LawKit.callS X804 hx (y := (⟨"com/example/lease/lease/cli/OptionValues", "oneOf", "(Ljava/lang/String;[Ljava/lang/String;)Z"⟩ : MethodName)) hownj643 (mvT hZj643 (hw _ (List.mem_of_getElem? (i := 35) rfl))) (mvT hZj643 (hw _ (List.mem_of_getElem? (i := 36) rfl))) (mvT hZj643 (hw _ (List.mem_of_getElem? (i := 37) rfl))) (mvT hZj643 (hw _ (List.mem_of_getElem? (i := 38) rfl))) (by decide) (own_backN (W := 0) (rm_oo3 l Z a0 hw [] am636 (own_mk p1) b740 k740 s0 s1 s2 u0 u1 u2 cz h783 n0 Zs786 O784 f789 V794 f790 f791 f792 SC hcz) hZj643 (hw _ (List.mem_of_getElem? (i := 38) rfl)) (hw _ (List.mem_of_getElem? (i := 37) rfl)) (by decide) (by decide)) (g := (mkF m 212 #[.val (.int p1), .val (.int p2), .val (.int p3), .val (.int p4), .val (.int p5), .val (.int (3 : Int32)), .val (.int (0 : Int32)), .val (.ref am636), .val (.ref s0), .val (.ref s1), .val (.ref s2), .val (.ref b740), .val (.int (0 : Int32))] [(.ref b740), (.ref am636)])) rfl (by rw [hml]; rfl) (argsL := [(.ref am636), (.ref b740)]) (rest := []) (lenOf lw_pd0 rfl) rfl (by show 2 * 0 + _ ≤ _; exact Nat.le_of_eq rfl) (hb hby at_212) (fun _ _ => ⟨rfl, hh804, Nat.le_of_ble_eq_true rfl, Nat.le_of_ble_eq_true rfl⟩)
                  dsimp only [Pt.U, Pt.locs, Pt.cells, Pt.slots] at X805 l805 y805 z805 st805 hQ805
                  subst l805 y805 z805
                  rw [if_neg (by simp [Ne.symm (show _ ≠ _ from hq0), Ne.symm (show _ ≠ _ from hq1), Ne.symm (show _ ≠ _ from hq2)])] at hQ805
                  obtain ⟨rfl, N805q, hh805⟩ := hQ805
                  refine own_back st805 ?_
                  have N805 := Fr.app N804 N805q
                  show OwnGo p e below (T805.setTop (mkF m 215 #[.val (.int p1), .val (.int p2), .val (.int p3), .val (.int p4), .val (.int p5), .val (.int (3 : Int32)), .val (.int (0 : Int32)), .val (.ref am636), .val (.ref s0), .val (.ref s1), .val (.ref s2), .val (.ref b740), .val (.int (0 : Int32))] [(.int (0 : Int32))])) _
                  refine own_back (fun t k => XS.iload X805.here hx rfl (hb hby at_215) rfl k) ?_
                  show OwnGo p e below (T805.setTop (mkF m 217 #[.val (.int p1), .val (.int p2), .val (.int p3), .val (.int p4), .val (.int p5), .val (.int (3 : Int32)), .val (.int (0 : Int32)), .val (.ref am636), .val (.ref s0), .val (.ref s1), .val (.ref s2), .val (.ref b740), .val (.int (0 : Int32))] [(.int (0 : Int32)), (.int (0 : Int32))])) _
                  refine own_back (fun t k => XS.icmpNo X805.here hx rfl (hb hby at_217) rfl (Jvm.Free.XT.ii_ne_f (by decide)) k) ?_
                  show OwnGo p e below (T805.setTop (mkF m 220 #[.val (.int p1), .val (.int p2), .val (.int p3), .val (.int p4), .val (.int p5), .val (.int (3 : Int32)), .val (.int (0 : Int32)), .val (.ref am636), .val (.ref s0), .val (.ref s1), .val (.ref s2), .val (.ref b740), .val (.int (0 : Int32))] [])) _
                  refine own_back (fun t k => XS.iconst X805.here hx rfl (hb hby at_220) k) ?_
                  show OwnGo p e below (T805.setTop (mkF m 221 #[.val (.int p1), .val (.int p2), .val (.int p3), .val (.int p4), .val (.int p5), .val (.int (3 : Int32)), .val (.int (0 : Int32)), .val (.ref am636), .val (.ref s0), .val (.ref s1), .val (.ref s2), .val (.ref b740), .val (.int (0 : Int32))] [(.int (1 : Int32))])) _
                  refine own_back (fun t k => XS.goto X805.here hx rfl (pc0 := 221) (pc' := 225) rfl (hb hby at_221) (by decide) (by decide) k) ?_
                  show OwnGo p e below (T805.setTop (mkF m 225 #[.val (.int p1), .val (.int p2), .val (.int p3), .val (.int p4), .val (.int p5), .val (.int (3 : Int32)), .val (.int (0 : Int32)), .val (.ref am636), .val (.ref s0), .val (.ref s1), .val (.ref s2), .val (.ref b740), .val (.int (0 : Int32))] [(.int (1 : Int32))])) _
                  refine own_retNW X805 hx Bd.notSynchronized (t := .boolean) (z := (1 : Int32)) Bd.returns (by simp) rfl hSj643 hk788 hZj643 hEL (hh ▸ CR787) (hb hby at_225) hh805 (Nat.le_of_ble_eq_true rfl) (Nat.le_of_ble_eq_true rfl) ?_
                  exact ⟨rfl, N805⟩
        by_cases hc88_806 : (((p5.toUInt32 >>> ((4 : Int32) &&& 31).toUInt32).toInt32) &&& (1 : Int32)) = (0 : Int32)
        · refine own_back (fun t k => XS.ifYes Xj642.here hx rfl (pc0 := 88) (pc' := 98) rfl (hb hby at_88) rfl (Jvm.Free.XT.i0_eq_t hc88_806) (by decide) (by decide) k) ?_
          show OwnGo p e below (Tj642.setTop (mkF m 98 #[.val (.int p1), .val (.int p2), .val (.int p3), .val (.int p4), .val (.int p5), .val (.int (p5 &&& (3 : Int32))), .val (.int (0 : Int32)), .val (.ref am636), .val (.ref s0), .val (.ref s1), .unset, .unset, .unset] [])) _
          refine own_back (fun t k => XS.iloadN Xj642.here hx rfl (hb hby at_98) rfl k) ?_
          show OwnGo p e below (Tj642.setTop (mkF m 99 #[.val (.int p1), .val (.int p2), .val (.int p3), .val (.int p4), .val (.int p5), .val (.int (p5 &&& (3 : Int32))), .val (.int (0 : Int32)), .val (.ref am636), .val (.ref s0), .val (.ref s1), .unset, .unset, .unset] [(.int p4)])) _
          obtain ⟨_, _, ⟨T807, L807, k807, n807⟩, -, X807, hSn807, hgr807, ⟨Lc807, hQ807, l807, y807, z807, CRn807⟩, st807⟩ := callSS Xj642 hx (y := (⟨"com/example/lease/lease/cli/OptionValuesOneOfPinLaw", "mk", "(I)Ljava/lang/String;"⟩ : MethodName)) hownj642 (mvT hZj642 (hw _ (List.mem_of_getElem? (i := 0) rfl))) (mvT hZj642 (hw _ (List.mem_of_getElem? (i := 1) rfl))) (mvT hZj642 (hw _ (List.mem_of_getElem? (i := 2) rfl))) (mvT hZj642 (hw _ (List.mem_of_getElem? (i := 3) rfl))) (by decide) (own_backH (W := 0) (rm_mk l Z a0 hw [] p4 cz hj642 n0 Zj642 Oj642 SC hcz) hZj642 (hw _ (List.mem_of_getElem? (i := 3) rfl)) (hw _ (List.mem_of_getElem? (i := 2) rfl)) (by decide) (by decide) hEL CRj642.1 sf0 all0) (g := (mkF m 99 #[.val (.int p1), .val (.int p2), .val (.int p3), .val (.int p4), .val (.int p5), .val (.int (p5 &&& (3 : Int32))), .val (.int (0 : Int32)), .val (.ref am636), .val (.ref s0), .val (.ref s1), .unset, .unset, .unset] [(.int p4)])) rfl (by rw [hml]; rfl) (argsL := [(.int p4)]) (rest := []) (lenOf lw_pd1 rfl) rfl (by show 2 * 0 + _ ≤ _; exact Nat.le_of_eq rfl) (hb hby at_99) (fun _ _ => ⟨rfl, ej642, Nat.le_of_ble_eq_true rfl, Nat.le_of_ble_eq_true rfl⟩)
          dsimp only [Pt.U, Pt.locs, Pt.cells, Pt.slots] at X807 l807 y807 z807 st807 hQ807 hSn807 hgr807 CRn807
          subst l807 y807 z807
          obtain ⟨Xr807, hSr807, hZr807, hownr807⟩ := rebS hSj642 (own_hle ej642 hkj642) X807 hSn807 hgr807 hZj642 hownj642
          obtain ⟨am807, rfl, N807q, E807, B807⟩ := hQ807
          refine own_seq st807 ?_
          have N807 := Fr.app Nj642 N807q
          have O808 := Oj642.ext E807
          have KP809 := KPj642.ext E807
          have Zs810 := Nat.le_trans Zj642 E807.1
          have CR811 := CRj642.trans CRn807
          have f812 := hs642_0.ext E807
          have f813 := hs642_1.ext E807
          have f814 := hs642_2.ext E807
          show OwnGo p e below (T807.setTop (mkF m 102 #[.val (.int p1), .val (.int p2), .val (.int p3), .val (.int p4), .val (.int p5), .val (.int (p5 &&& (3 : Int32))), .val (.int (0 : Int32)), .val (.ref am636), .val (.ref s0), .val (.ref s1), .unset, .unset, .unset] [(.ref am807)])) _
          exact tl102_643 _ _ _ _ ⟨_, _, _, Xr807, rfl, hSr807, (Nat.le_refl _), hZr807, hownr807, CR811, O808, KP809, Zs810, N807⟩ f812 f813 f814 B807
        · refine own_back (fun t k => XS.ifNo Xj642.here hx rfl (hb hby at_88) rfl (Jvm.Free.XT.i0_eq_f hc88_806) k) ?_
          show OwnGo p e below (Tj642.setTop (mkF m 91 #[.val (.int p1), .val (.int p2), .val (.int p3), .val (.int p4), .val (.int p5), .val (.int (p5 &&& (3 : Int32))), .val (.int (0 : Int32)), .val (.ref am636), .val (.ref s0), .val (.ref s1), .unset, .unset, .unset] [])) _
          refine own_back (fun t k => XS.iloadN Xj642.here hx rfl (hb hby at_91) rfl k) ?_
          show OwnGo p e below (Tj642.setTop (mkF m 92 #[.val (.int p1), .val (.int p2), .val (.int p3), .val (.int p4), .val (.int p5), .val (.int (p5 &&& (3 : Int32))), .val (.int (0 : Int32)), .val (.ref am636), .val (.ref s0), .val (.ref s1), .unset, .unset, .unset] [(.int p1)])) _
          obtain ⟨_, _, ⟨T815, L815, k815, n815⟩, -, X815, hSn815, hgr815, ⟨Lc815, hQ815, l815, y815, z815, CRn815⟩, st815⟩ := callSS Xj642 hx (y := (⟨"com/example/lease/lease/cli/OptionValuesOneOfPinLaw", "mk", "(I)Ljava/lang/String;"⟩ : MethodName)) hownj642 (mvT hZj642 (hw _ (List.mem_of_getElem? (i := 0) rfl))) (mvT hZj642 (hw _ (List.mem_of_getElem? (i := 1) rfl))) (mvT hZj642 (hw _ (List.mem_of_getElem? (i := 2) rfl))) (mvT hZj642 (hw _ (List.mem_of_getElem? (i := 3) rfl))) (by decide) (own_backH (W := 0) (rm_mk l Z a0 hw [] p1 cz hj642 n0 Zj642 Oj642 SC hcz) hZj642 (hw _ (List.mem_of_getElem? (i := 3) rfl)) (hw _ (List.mem_of_getElem? (i := 2) rfl)) (by decide) (by decide) hEL CRj642.1 sf0 all0) (g := (mkF m 92 #[.val (.int p1), .val (.int p2), .val (.int p3), .val (.int p4), .val (.int p5), .val (.int (p5 &&& (3 : Int32))), .val (.int (0 : Int32)), .val (.ref am636), .val (.ref s0), .val (.ref s1), .unset, .unset, .unset] [(.int p1)])) rfl (by rw [hml]; rfl) (argsL := [(.int p1)]) (rest := []) (lenOf lw_pd1 rfl) rfl (by show 2 * 0 + _ ≤ _; exact Nat.le_of_eq rfl) (hb hby at_92) (fun _ _ => ⟨rfl, ej642, Nat.le_of_ble_eq_true rfl, Nat.le_of_ble_eq_true rfl⟩)
          dsimp only [Pt.U, Pt.locs, Pt.cells, Pt.slots] at X815 l815 y815 z815 st815 hQ815 hSn815 hgr815 CRn815
          subst l815 y815 z815
          obtain ⟨Xr815, hSr815, hZr815, hownr815⟩ := rebS hSj642 (own_hle ej642 hkj642) X815 hSn815 hgr815 hZj642 hownj642
          obtain ⟨am815, rfl, N815q, E815, B815⟩ := hQ815
          refine own_seq st815 ?_
          have N815 := Fr.app Nj642 N815q
          have O816 := Oj642.ext E815
          have KP817 := KPj642.ext E815
          have Zs818 := Nat.le_trans Zj642 E815.1
          have CR819 := CRj642.trans CRn815
          have f820 := hs642_0.ext E815
          have f821 := hs642_1.ext E815
          have f822 := hs642_2.ext E815
          show OwnGo p e below (T815.setTop (mkF m 95 #[.val (.int p1), .val (.int p2), .val (.int p3), .val (.int p4), .val (.int p5), .val (.int (p5 &&& (3 : Int32))), .val (.int (0 : Int32)), .val (.ref am636), .val (.ref s0), .val (.ref s1), .unset, .unset, .unset] [(.ref am815)])) _
          refine own_back (fun t k => XS.goto Xr815.here hx rfl (pc0 := 95) (pc' := 102) rfl (hb hby at_95) (by decide) (by decide) k) ?_
          show OwnGo p e below (T815.setTop (mkF m 102 #[.val (.int p1), .val (.int p2), .val (.int p3), .val (.int p4), .val (.int p5), .val (.int (p5 &&& (3 : Int32))), .val (.int (0 : Int32)), .val (.ref am636), .val (.ref s0), .val (.ref s1), .unset, .unset, .unset] [(.ref am815)])) _
          exact tl102_643 _ _ _ _ ⟨_, _, _, Xr815, rfl, hSr815, (Nat.le_refl _), hZr815, hownr815, CR819, O816, KP817, Zs818, N815⟩ f820 f821 f822 B815
      by_cases hc66_823 : (((p5.toUInt32 >>> ((3 : Int32) &&& 31).toUInt32).toInt32) &&& (1 : Int32)) = (0 : Int32)
      · refine own_back (fun t k => XS.ifYes Xj641.here hx rfl (pc0 := 66) (pc' := 76) rfl (hb hby at_66) rfl (Jvm.Free.XT.i0_eq_t hc66_823) (by decide) (by decide) k) ?_
        show OwnGo p e below (Tj641.setTop (mkF m 76 #[.val (.int p1), .val (.int p2), .val (.int p3), .val (.int p4), .val (.int p5), .val (.int (p5 &&& (3 : Int32))), .val (.int (0 : Int32)), .val (.ref am636), .val (.ref s0), .unset, .unset, .unset, .unset] [])) _
        refine own_back (fun t k => XS.iloadN Xj641.here hx rfl (hb hby at_76) rfl k) ?_
        show OwnGo p e below (Tj641.setTop (mkF m 77 #[.val (.int p1), .val (.int p2), .val (.int p3), .val (.int p4), .val (.int p5), .val (.int (p5 &&& (3 : Int32))), .val (.int (0 : Int32)), .val (.ref am636), .val (.ref s0), .unset, .unset, .unset, .unset] [(.int p3)])) _
        obtain ⟨_, _, ⟨T824, L824, k824, n824⟩, -, X824, hSn824, hgr824, ⟨Lc824, hQ824, l824, y824, z824, CRn824⟩, st824⟩ := callSS Xj641 hx (y := (⟨"com/example/lease/lease/cli/OptionValuesOneOfPinLaw", "mk", "(I)Ljava/lang/String;"⟩ : MethodName)) hownj641 (mvT hZj641 (hw _ (List.mem_of_getElem? (i := 0) rfl))) (mvT hZj641 (hw _ (List.mem_of_getElem? (i := 1) rfl))) (mvT hZj641 (hw _ (List.mem_of_getElem? (i := 2) rfl))) (mvT hZj641 (hw _ (List.mem_of_getElem? (i := 3) rfl))) (by decide) (own_backH (W := 0) (rm_mk l Z a0 hw [] p3 cz hj641 n0 Zj641 Oj641 SC hcz) hZj641 (hw _ (List.mem_of_getElem? (i := 3) rfl)) (hw _ (List.mem_of_getElem? (i := 2) rfl)) (by decide) (by decide) hEL CRj641.1 sf0 all0) (g := (mkF m 77 #[.val (.int p1), .val (.int p2), .val (.int p3), .val (.int p4), .val (.int p5), .val (.int (p5 &&& (3 : Int32))), .val (.int (0 : Int32)), .val (.ref am636), .val (.ref s0), .unset, .unset, .unset, .unset] [(.int p3)])) rfl (by rw [hml]; rfl) (argsL := [(.int p3)]) (rest := []) (lenOf lw_pd1 rfl) rfl (by show 2 * 0 + _ ≤ _; exact Nat.le_of_eq rfl) (hb hby at_77) (fun _ _ => ⟨rfl, ej641, Nat.le_of_ble_eq_true rfl, Nat.le_of_ble_eq_true rfl⟩)
        dsimp only [Pt.U, Pt.locs, Pt.cells, Pt.slots] at X824 l824 y824 z824 st824 hQ824 hSn824 hgr824 CRn824
        subst l824 y824 z824
        obtain ⟨Xr824, hSr824, hZr824, hownr824⟩ := rebS hSj641 (own_hle ej641 hkj641) X824 hSn824 hgr824 hZj641 hownj641
        obtain ⟨am824, rfl, N824q, E824, B824⟩ := hQ824
        refine own_seq st824 ?_
        have N824 := Fr.app Nj641 N824q
        have O825 := Oj641.ext E824
        have KP826 := KPj641.ext E824
        have Zs827 := Nat.le_trans Zj641 E824.1
        have CR828 := CRj641.trans CRn824
        have f829 := hs641_0.ext E824
        have f830 := hs641_1.ext E824
        show OwnGo p e below (T824.setTop (mkF m 80 #[.val (.int p1), .val (.int p2), .val (.int p3), .val (.int p4), .val (.int p5), .val (.int (p5 &&& (3 : Int32))), .val (.int (0 : Int32)), .val (.ref am636), .val (.ref s0), .unset, .unset, .unset, .unset] [(.ref am824)])) _
        exact tl80_642 _ _ _ _ ⟨_, _, _, Xr824, rfl, hSr824, (Nat.le_refl _), hZr824, hownr824, CR828, O825, KP826, Zs827, N824⟩ f829 f830 B824
      · refine own_back (fun t k => XS.ifNo Xj641.here hx rfl (hb hby at_66) rfl (Jvm.Free.XT.i0_eq_f hc66_823) k) ?_
        show OwnGo p e below (Tj641.setTop (mkF m 69 #[.val (.int p1), .val (.int p2), .val (.int p3), .val (.int p4), .val (.int p5), .val (.int (p5 &&& (3 : Int32))), .val (.int (0 : Int32)), .val (.ref am636), .val (.ref s0), .unset, .unset, .unset, .unset] [])) _
        refine own_back (fun t k => XS.iloadN Xj641.here hx rfl (hb hby at_69) rfl k) ?_
        show OwnGo p e below (Tj641.setTop (mkF m 70 #[.val (.int p1), .val (.int p2), .val (.int p3), .val (.int p4), .val (.int p5), .val (.int (p5 &&& (3 : Int32))), .val (.int (0 : Int32)), .val (.ref am636), .val (.ref s0), .unset, .unset, .unset, .unset] [(.int p1)])) _
        obtain ⟨_, _, ⟨T831, L831, k831, n831⟩, -, X831, hSn831, hgr831, ⟨Lc831, hQ831, l831, y831, z831, CRn831⟩, st831⟩ := callSS Xj641 hx (y := (⟨"com/example/lease/lease/cli/OptionValuesOneOfPinLaw", "mk", "(I)Ljava/lang/String;"⟩ : MethodName)) hownj641 (mvT hZj641 (hw _ (List.mem_of_getElem? (i := 0) rfl))) (mvT hZj641 (hw _ (List.mem_of_getElem? (i := 1) rfl))) (mvT hZj641 (hw _ (List.mem_of_getElem? (i := 2) rfl))) (mvT hZj641 (hw _ (List.mem_of_getElem? (i := 3) rfl))) (by decide) (own_backH (W := 0) (rm_mk l Z a0 hw [] p1 cz hj641 n0 Zj641 Oj641 SC hcz) hZj641 (hw _ (List.mem_of_getElem? (i := 3) rfl)) (hw _ (List.mem_of_getElem? (i := 2) rfl)) (by decide) (by decide) hEL CRj641.1 sf0 all0) (g := (mkF m 70 #[.val (.int p1), .val (.int p2), .val (.int p3), .val (.int p4), .val (.int p5), .val (.int (p5 &&& (3 : Int32))), .val (.int (0 : Int32)), .val (.ref am636), .val (.ref s0), .unset, .unset, .unset, .unset] [(.int p1)])) rfl (by rw [hml]; rfl) (argsL := [(.int p1)]) (rest := []) (lenOf lw_pd1 rfl) rfl (by show 2 * 0 + _ ≤ _; exact Nat.le_of_eq rfl) (hb hby at_70) (fun _ _ => ⟨rfl, ej641, Nat.le_of_ble_eq_true rfl, Nat.le_of_ble_eq_true rfl⟩)
        dsimp only [Pt.U, Pt.locs, Pt.cells, Pt.slots] at X831 l831 y831 z831 st831 hQ831 hSn831 hgr831 CRn831
        subst l831 y831 z831
        obtain ⟨Xr831, hSr831, hZr831, hownr831⟩ := rebS hSj641 (own_hle ej641 hkj641) X831 hSn831 hgr831 hZj641 hownj641
        obtain ⟨am831, rfl, N831q, E831, B831⟩ := hQ831
        refine own_seq st831 ?_
        have N831 := Fr.app Nj641 N831q
        have O832 := Oj641.ext E831
        have KP833 := KPj641.ext E831
        have Zs834 := Nat.le_trans Zj641 E831.1
        have CR835 := CRj641.trans CRn831
        have f836 := hs641_0.ext E831
        have f837 := hs641_1.ext E831
        show OwnGo p e below (T831.setTop (mkF m 73 #[.val (.int p1), .val (.int p2), .val (.int p3), .val (.int p4), .val (.int p5), .val (.int (p5 &&& (3 : Int32))), .val (.int (0 : Int32)), .val (.ref am636), .val (.ref s0), .unset, .unset, .unset, .unset] [(.ref am831)])) _
        refine own_back (fun t k => XS.goto Xr831.here hx rfl (pc0 := 73) (pc' := 80) rfl (hb hby at_73) (by decide) (by decide) k) ?_
        show OwnGo p e below (T831.setTop (mkF m 80 #[.val (.int p1), .val (.int p2), .val (.int p3), .val (.int p4), .val (.int p5), .val (.int (p5 &&& (3 : Int32))), .val (.int (0 : Int32)), .val (.ref am636), .val (.ref s0), .unset, .unset, .unset, .unset] [(.ref am831)])) _
        exact tl80_642 _ _ _ _ ⟨_, _, _, Xr831, rfl, hSr831, (Nat.le_refl _), hZr831, hownr831, CR835, O832, KP833, Zs834, N831⟩ f836 f837 B831
    by_cases hc44_838 : (((p5.toUInt32 >>> ((2 : Int32) &&& 31).toUInt32).toInt32) &&& (1 : Int32)) = (0 : Int32)
    · refine own_back (fun t k => XS.ifYes Xr636.here hx rfl (pc0 := 44) (pc' := 54) rfl (hb hby at_44) rfl (Jvm.Free.XT.i0_eq_t hc44_838) (by decide) (by decide) k) ?_
      show OwnGo p e below (T636.setTop (mkF m 54 #[.val (.int p1), .val (.int p2), .val (.int p3), .val (.int p4), .val (.int p5), .val (.int (p5 &&& (3 : Int32))), .val (.int (0 : Int32)), .val (.ref am636), .unset, .unset, .unset, .unset, .unset] [])) _
      refine own_back (fun t k => XS.iloadN Xr636.here hx rfl (hb hby at_54) rfl k) ?_
      show OwnGo p e below (T636.setTop (mkF m 55 #[.val (.int p1), .val (.int p2), .val (.int p3), .val (.int p4), .val (.int p5), .val (.int (p5 &&& (3 : Int32))), .val (.int (0 : Int32)), .val (.ref am636), .unset, .unset, .unset, .unset, .unset] [(.int p2)])) _
      obtain ⟨_, _, ⟨T839, L839, k839, n839⟩, -, X839, hSn839, hgr839, ⟨Lc839, hQ839, l839, y839, z839, CRn839⟩, st839⟩ := callSS Xr636 hx (y := (⟨"com/example/lease/lease/cli/OptionValuesOneOfPinLaw", "mk", "(I)Ljava/lang/String;"⟩ : MethodName)) hownr636 (mvT hZr636 (hw _ (List.mem_of_getElem? (i := 0) rfl))) (mvT hZr636 (hw _ (List.mem_of_getElem? (i := 1) rfl))) (mvT hZr636 (hw _ (List.mem_of_getElem? (i := 2) rfl))) (mvT hZr636 (hw _ (List.mem_of_getElem? (i := 3) rfl))) (by decide) (own_backH (W := 0) (rm_mk l Z a0 hw [] p2 cz T636.heap n0 Zs639 O637 SC hcz) hZr636 (hw _ (List.mem_of_getElem? (i := 3) rfl)) (hw _ (List.mem_of_getElem? (i := 2) rfl)) (by decide) (by decide) hEL CR640.1 sf0 all0) (g := (mkF m 55 #[.val (.int p1), .val (.int p2), .val (.int p3), .val (.int p4), .val (.int p5), .val (.int (p5 &&& (3 : Int32))), .val (.int (0 : Int32)), .val (.ref am636), .unset, .unset, .unset, .unset, .unset] [(.int p2)])) rfl (by rw [hml]; rfl) (argsL := [(.int p2)]) (rest := []) (lenOf lw_pd1 rfl) rfl (by show 2 * 0 + _ ≤ _; exact Nat.le_of_eq rfl) (hb hby at_55) (fun _ _ => ⟨rfl, rfl, Nat.le_of_ble_eq_true rfl, Nat.le_of_ble_eq_true rfl⟩)
      dsimp only [Pt.U, Pt.locs, Pt.cells, Pt.slots] at X839 l839 y839 z839 st839 hQ839 hSn839 hgr839 CRn839
      subst l839 y839 z839
      obtain ⟨Xr839, hSr839, hZr839, hownr839⟩ := rebS hSr636 (own_hle rfl (Nat.le_refl _)) X839 hSn839 hgr839 hZr636 hownr636
      obtain ⟨am839, rfl, N839q, E839, B839⟩ := hQ839
      refine own_seq st839 ?_
      have N839 := Fr.app N636 N839q
      have O840 := O637.ext E839
      have KP841 := KP638.ext E839
      have Zs842 := Nat.le_trans Zs639 E839.1
      have CR843 := CR640.trans CRn839
      have f844 := B636.ext E839
      show OwnGo p e below (T839.setTop (mkF m 58 #[.val (.int p1), .val (.int p2), .val (.int p3), .val (.int p4), .val (.int p5), .val (.int (p5 &&& (3 : Int32))), .val (.int (0 : Int32)), .val (.ref am636), .unset, .unset, .unset, .unset, .unset] [(.ref am839)])) _
      exact tl58_641 _ _ _ _ ⟨_, _, _, Xr839, rfl, hSr839, (Nat.le_refl _), hZr839, hownr839, CR843, O840, KP841, Zs842, N839⟩ f844 B839
    · refine own_back (fun t k => XS.ifNo Xr636.here hx rfl (hb hby at_44) rfl (Jvm.Free.XT.i0_eq_f hc44_838) k) ?_
      show OwnGo p e below (T636.setTop (mkF m 47 #[.val (.int p1), .val (.int p2), .val (.int p3), .val (.int p4), .val (.int p5), .val (.int (p5 &&& (3 : Int32))), .val (.int (0 : Int32)), .val (.ref am636), .unset, .unset, .unset, .unset, .unset] [])) _
      refine own_back (fun t k => XS.iloadN Xr636.here hx rfl (hb hby at_47) rfl k) ?_
      show OwnGo p e below (T636.setTop (mkF m 48 #[.val (.int p1), .val (.int p2), .val (.int p3), .val (.int p4), .val (.int p5), .val (.int (p5 &&& (3 : Int32))), .val (.int (0 : Int32)), .val (.ref am636), .unset, .unset, .unset, .unset, .unset] [(.int p1)])) _
      obtain ⟨_, _, ⟨T845, L845, k845, n845⟩, -, X845, hSn845, hgr845, ⟨Lc845, hQ845, l845, y845, z845, CRn845⟩, st845⟩ := callSS Xr636 hx (y := (⟨"com/example/lease/lease/cli/OptionValuesOneOfPinLaw", "mk", "(I)Ljava/lang/String;"⟩ : MethodName)) hownr636 (mvT hZr636 (hw _ (List.mem_of_getElem? (i := 0) rfl))) (mvT hZr636 (hw _ (List.mem_of_getElem? (i := 1) rfl))) (mvT hZr636 (hw _ (List.mem_of_getElem? (i := 2) rfl))) (mvT hZr636 (hw _ (List.mem_of_getElem? (i := 3) rfl))) (by decide) (own_backH (W := 0) (rm_mk l Z a0 hw [] p1 cz T636.heap n0 Zs639 O637 SC hcz) hZr636 (hw _ (List.mem_of_getElem? (i := 3) rfl)) (hw _ (List.mem_of_getElem? (i := 2) rfl)) (by decide) (by decide) hEL CR640.1 sf0 all0) (g := (mkF m 48 #[.val (.int p1), .val (.int p2), .val (.int p3), .val (.int p4), .val (.int p5), .val (.int (p5 &&& (3 : Int32))), .val (.int (0 : Int32)), .val (.ref am636), .unset, .unset, .unset, .unset, .unset] [(.int p1)])) rfl (by rw [hml]; rfl) (argsL := [(.int p1)]) (rest := []) (lenOf lw_pd1 rfl) rfl (by show 2 * 0 + _ ≤ _; exact Nat.le_of_eq rfl) (hb hby at_48) (fun _ _ => ⟨rfl, rfl, Nat.le_of_ble_eq_true rfl, Nat.le_of_ble_eq_true rfl⟩)
      dsimp only [Pt.U, Pt.locs, Pt.cells, Pt.slots] at X845 l845 y845 z845 st845 hQ845 hSn845 hgr845 CRn845
      subst l845 y845 z845
      obtain ⟨Xr845, hSr845, hZr845, hownr845⟩ := rebS hSr636 (own_hle rfl (Nat.le_refl _)) X845 hSn845 hgr845 hZr636 hownr636
      obtain ⟨am845, rfl, N845q, E845, B845⟩ := hQ845
      refine own_seq st845 ?_
      have N845 := Fr.app N636 N845q
      have O846 := O637.ext E845
      have KP847 := KP638.ext E845
      have Zs848 := Nat.le_trans Zs639 E845.1
      have CR849 := CR640.trans CRn845
      have f850 := B636.ext E845
      show OwnGo p e below (T845.setTop (mkF m 51 #[.val (.int p1), .val (.int p2), .val (.int p3), .val (.int p4), .val (.int p5), .val (.int (p5 &&& (3 : Int32))), .val (.int (0 : Int32)), .val (.ref am636), .unset, .unset, .unset, .unset, .unset] [(.ref am845)])) _
      refine own_back (fun t k => XS.goto Xr845.here hx rfl (pc0 := 51) (pc' := 58) rfl (hb hby at_51) (by decide) (by decide) k) ?_
      show OwnGo p e below (T845.setTop (mkF m 58 #[.val (.int p1), .val (.int p2), .val (.int p3), .val (.int p4), .val (.int p5), .val (.int (p5 &&& (3 : Int32))), .val (.int (0 : Int32)), .val (.ref am636), .unset, .unset, .unset, .unset, .unset] [(.ref am845)])) _
      exact tl58_641 _ _ _ _ ⟨_, _, _, Xr845, rfl, hSr845, (Nat.le_refl _), hZr845, hownr845, CR849, O846, KP847, Zs848, N845⟩ f850 B845
set_option maxRecDepth 65536 in
set_option maxHeartbeats 40000000 in
theorem comes_1 {Post : Tables → Env → Array Value → State → Outcome → State → Prop} (hpost : ∀ tb e args s v u, (limb_1_1.after args s (.returned v) u = true ∧ limb_1_2.after args s (.returned v) u = true ∧ True) → ReturnedEndW s (.returned v) u (Jvm.fieldLocs frame_1_writes args s ++ Jvm.arrayLocs frame_1_arrays args s ++ Jvm.staticLocs frame_1_statics s) 40 1216 → Post tb e args s (.returned v) u) :
    ArmFor flags0 classFile x code maxLocals ret World_1 tables_1 room_1 Calls_1 rest_1 Pre_1 Post := by
  intro l hfl _ _ p e ha hc hk s m args below hf hA hF happ hP
  obtain ⟨hcalls, hrest, hpre⟩ := hP
  obtain ⟨-, -, -, hnamed, -, -, -, hat⟩ := (Spec.applies_iff hf).mp happ
  obtain ⟨hg, hn⟩ := and_e (Cond.before_iff.mp (show (Jvm.Cond.and given_1 narrow_1).before args s = true from hpre))
  obtain ⟨g1, g2⟩ := and_e hg
  obtain ⟨g3, g4⟩ := and_e g2
  obtain ⟨g5, g6⟩ := and_e g4
  obtain ⟨g7, g8⟩ := and_e g6
  obtain ⟨g9, g10⟩ := and_e g8
  obtain ⟨w0, w1, w2, w3, w4, rfl⟩ : ∃ w0 w1 w2 w3 w4 : Value, args = #[w0, w1, w2, w3, w4] := by
    have hs : args.size = 5 := by simpa [Cond.value, given_1] using g1
    obtain ⟨L⟩ := args
    match L, hs with
    | [w0, w1, w2, w3, w4], _ => exact ⟨w0, w1, w2, w3, w4, rfl⟩
  have hw := fun d (hd : d ∈ tables_1) => atoms_spec (ws := Jvm.Cond.code x code maxLocals ret :: tables_1) hat d (List.mem_cons_of_mem _ hd)
  have hfit : Fit s := fun {y c} hc i hi => by
    obtain ⟨ha, rfl⟩ := Array.getElem?_eq_some_iff.mp hc
    have q := List.all_eq_true.mp ((Array.all_eq_true_iff_forall_mem.mp hF) _ (Array.getElem_mem ha)) i (List.mem_range.mpr hi)
    simpa [Array.getElem?_eq_getElem hi] using q
  obtain ⟨hsets, hown0⟩ := atoms_of _ (rest_1_c_eq ▸ (show rest_1_c.before _ s = true from hrest))
  have hr0 := Cond.before_iff.mp hown0
  obtain ⟨i0, ei0⟩ := is_v g3
  obtain rfl : w0 = (.int i0) := Option.some.inj ei0
  obtain ⟨i1, ei1⟩ := is_v g5
  obtain rfl : w1 = (.int i1) := Option.some.inj ei1
  obtain ⟨i2, ei2⟩ := is_v g7
  obtain rfl : w2 = (.int i2) := Option.some.inj ei2
  obtain ⟨i3, ei3⟩ := is_v g9
  obtain rfl : w3 = (.int i3) := Option.some.inj ei3
  obtain ⟨i4, ei4⟩ := is_v g10
  obtain rfl : w4 = (.int i4) := Option.some.inj ei4
  obtain ⟨cz, ecz⟩ := is_v (Cond.before_iff.mp (hsets _ (List.mem_of_getElem? (i := 1) rfl)))
  have SC : Sta s s.heap "java/lang/String" "COMPACT_STRINGS" "Z" (.int cz) := Sta.start ecz (Or.inl (hsets _ (List.mem_of_getElem? (i := 0) rfl)))
  have ncz := not_v (Cond.before_iff.mp (hsets _ (List.mem_of_getElem? (i := 2) rfl)))
  have hcz : ¬ (cz = (0 : Int32)) := gotF (Cond.eq_ints ecz (Term.int_eval (0))) ncz
  have hCH : CHv s own_EL s.vm s.heap := CHv.start (own_EW hw) (fun p hp => hcalls.1 p hp) (hsets _ (List.mem_of_getElem? (i := 2) rfl)) (hw _ (List.mem_of_getElem? (i := 23) rfl)) (hw _ (List.mem_of_getElem? (i := 5) rfl))
  obtain ⟨n, o, h1, h2, h3, _, L, rfl, ⟨rfl, N⟩, -, hq⟩ := rm_law l s _ hw tables_1 i0 i1 i2 i3 i4 cz s.heap s.heap.size (Nat.le_refl _) (Old.start s) SC hcz p e ha hc hk s m _ below hf ((Spec.applies_iff_loose hf).mp happ).1 ⟨rfl, State.Warmed39.refl s, rfl, hCH, fun _ q => nomatch q⟩ trivial
  refine ⟨n, _, h1, h2, h3, hpost _ _ _ _ _ _ ⟨Cond.after_iff.mpr rfl, Cond.after_iff.mpr (eq_i res_at (Term.int_eval (1)) rfl), trivial⟩ ⟨hq.1, hq.2.1, hq.2.2.1, (hq.2.2.2.sift fun y hy => Or.inr (N y hy)).mono (by decide) (by decide)⟩⟩
theorem main_1_1 : Claimed_1_1 := comes_1 fun _ _ _ _ _ _ h hF => ⟨h.1, hF⟩
theorem main_1_2 : Claimed_1_2 := comes_1 fun _ _ _ _ _ _ h hF => ⟨h.2.1, hF⟩
end Jvm.Pilot.@@N@@
namespace Jvm.Pilot.@@N@@
open Jvm Jvm.ClassFile Sem Op Lib Jvm.Free Jvm.Stand Jvm.Pilot.@@N@@.Jvm.D
/-! MADE BY PROGRAM (witnessworld.py) out of the Statement's table words and the real class files: 21 classes; the members and pool entries that the words name. The judged class is class 1, her method 2. -/
namespace start1
open Jvm.ClassFile
def u (s : String) : CpInfo := .utf8 (stringToUtf16 s)
/-- a pool by its gaps: so many unusable entries, then the entry; so many at the end -/
def gap : Nat → List CpInfo → List CpInfo
  | 0, r => r
  | n + 1, r => .unusable :: gap n r
def poolList (es : List (Nat × CpInfo)) (last : Nat) : List CpInfo := es.foldr (fun e r => gap e.1 (e.2 :: r)) (gap last [])
def pool (es : List (Nat × CpInfo)) (last : Nat) : Array CpInfo := ⟨poolList es last⟩
def fileOf (pool : Array CpInfo) (this : Nat) (attrs : Array Attribute := #[]) (ms : Array MethodInfo := #[]) (fl : Nat := 33) (sup : Nat := 0) (ifs : Array Nat := #[]) (fds : Array FieldInfo := #[]) : ClassFile where
  minorVersion := 0
  majorVersion := 65
  constantPool := pool
  accessFlags := fl
  thisClass := this
  superClass := sup
  interfaces := ifs
  fields := fds
  methods := ms
  attributes := attrs
def plain (name : String) (sup : Option ClassId) : Class where
  name := name
  kind := .ordinary
  loader := none
  accessFlags := 33
  super := sup
  interfaces := #[]
  cf := none
  fields := #[]
  methods := #[]
  instanceTypes := #[]
  staticTypes := #[]
  resolved := #[]
  callSites := []
  init := .initialized
  statics := none
  mirror := none

def pool0 : Array CpInfo := pool [(5, u "<init>"), (0, u "()V"), (1, .class_ 10), (1, u "java/lang/Object")] 113

def k0c0 : Code := { maxStack := 0, maxLocals := 1, code := object_method_1_code, exceptionTable := #[], attributes := #[] }
def k0m0 : Method := { name := "<init>", desc := "()V", sig := { parameters := [], returnType := none }, accessFlags := 1, code := some k0c0 }
/-- java/lang/Object -/
def k0 : Class := { plain "java/lang/Object" none with
  accessFlags := 33
  interfaces := #[]
  cf := some (fileOf pool0 8 #[] #[{ accessFlags := 1, nameIndex := 5, descriptorIndex := 6, attributes := #[] }] 33 0 #[] #[])
  fields := #[]
  methods := #[k0m0]
  instanceTypes := #[]
  staticTypes := #[]
  resolved := Array.replicate 124 none
  statics := none }

def pool1 : Array CpInfo := pool [(2, .class_ 4), (1, u "java/lang/Object"), (0, u "<init>"), (0, u "()V"), (0, .class_ 8), (0, u "java/lang/String"), (0, .methodref 7 10), (0, .nameAndType 5 11), (0, u "([C)V"), (0, .methodref 13 14), (0, .class_ 15), (0, .nameAndType 16 17), (0, u "com/example/lease/lease/cli/OptionValuesOneOfPinLaw"), (0, u "mk"), (0, u "(I)Ljava/lang/String;"), (0, .methodref 7 19), (0, .nameAndType 20 21), (0, u "equals"), (0, u "(Ljava/lang/Object;)Z"), (0, .methodref 23 24), (0, .class_ 25), (0, .nameAndType 26 27), (0, u "com/example/lease/lease/cli/OptionValues"), (0, u "oneOf"), (0, u "(Ljava/lang/String;[Ljava/lang/String;)Z"), (3, u "law"), (0, u "(IIIII)Z")] 4

def k1m0 : Method := { name := "<init>", desc := "()V", sig := { parameters := [], returnType := none }, accessFlags := 2, code := none }
def k1c1 : Code := { maxStack := 6, maxLocals := 5, code := method_2_code, exceptionTable := #[], attributes := #[] }
def k1m1 : Method := { name := "mk", desc := "(I)Ljava/lang/String;", sig := { parameters := [.int], returnType := some (.object "java/lang/String") }, accessFlags := 10, code := some k1c1 }
def k1c2 : Code := { maxStack := 3, maxLocals := 13, code := code, exceptionTable := #[], attributes := #[] }
def k1m2 : Method := { name := "law", desc := "(IIIII)Z", sig := { parameters := [.int, .int, .int, .int, .int], returnType := some .boolean }, accessFlags := 9, code := some k1c2 }
/-- com/example/lease/lease/cli/OptionValuesOneOfPinLaw -/
def k1 : Class := { plain "com/example/lease/lease/cli/OptionValuesOneOfPinLaw" (some 0) with
  accessFlags := 49
  interfaces := #[]
  cf := some (fileOf pool1 13 #[] #[{ accessFlags := 2, nameIndex := 5, descriptorIndex := 6, attributes := #[] }, { accessFlags := 10, nameIndex := 16, descriptorIndex := 17, attributes := #[] }, { accessFlags := 9, nameIndex := 31, descriptorIndex := 32, attributes := #[] }] 49 2 #[] #[])
  fields := #[]
  methods := #[k1m0, k1m1, k1m2]
  instanceTypes := #[]
  staticTypes := #[]
  resolved := Array.replicate 37 none
  statics := none }

def pool2 : Array CpInfo := pool [(1, .class_ 2), (0, u "java/io/Serializable"), (0, .class_ 4), (0, u "java/lang/Object")] 2

/-- java/io/Serializable -/
def k2 : Class := { plain "java/io/Serializable" (some 0) with
  accessFlags := 1537
  interfaces := #[]
  cf := some (fileOf pool2 1 #[] #[] 1537 3 #[] #[])
  fields := #[]
  methods := #[]
  instanceTypes := #[]
  staticTypes := #[]
  resolved := Array.replicate 7 none
  statics := none }

def pool3 : Array CpInfo := pool [(1, .class_ 2), (0, u "java/lang/Comparable"), (0, .class_ 4), (0, u "java/lang/Object")] 7

/-- java/lang/Comparable -/
def k3 : Class := { plain "java/lang/Comparable" (some 0) with
  accessFlags := 1537
  interfaces := #[]
  cf := some (fileOf pool3 1 #[] #[] 1537 3 #[] #[])
  fields := #[]
  methods := #[]
  instanceTypes := #[]
  staticTypes := #[]
  resolved := Array.replicate 12 none
  statics := none }

def pool4 : Array CpInfo := pool [(2, .class_ 4), (1, u "java/lang/CharSequence"), (42, .class_ 48), (0, u "java/lang/CharSequence$1CodePointIterator"), (10, .class_ 60), (0, u "java/lang/CharSequence$1CharIterator"), (5, .class_ 67), (0, u "java/lang/Object")] 63

/-- java/lang/CharSequence -/
def k4 : Class := { plain "java/lang/CharSequence" (some 0) with
  accessFlags := 1537
  interfaces := #[]
  cf := some (fileOf pool4 2 #[.nestMembers #[47, 59]] #[] 1537 66 #[] #[])
  fields := #[]
  methods := #[]
  instanceTypes := #[]
  staticTypes := #[]
  resolved := Array.replicate 131 none
  statics := none }

def pool5 : Array CpInfo := pool [(1, .class_ 2), (0, u "java/lang/constant/Constable"), (0, .class_ 4), (0, u "java/lang/Object")] 6

/-- java/lang/constant/Constable -/
def k5 : Class := { plain "java/lang/constant/Constable" (some 0) with
  accessFlags := 1537
  interfaces := #[]
  cf := some (fileOf pool5 1 #[] #[] 1537 3 #[] #[])
  fields := #[]
  methods := #[]
  instanceTypes := #[]
  staticTypes := #[]
  resolved := Array.replicate 11 none
  statics := none }

def pool6 : Array CpInfo := pool [(1, .class_ 2), (0, u "java/lang/constant/ConstantDesc"), (0, .class_ 4), (0, u "java/lang/Object")] 32

/-- java/lang/constant/ConstantDesc -/
def k6 : Class := { plain "java/lang/constant/ConstantDesc" (some 0) with
  accessFlags := 1537
  interfaces := #[]
  cf := some (fileOf pool6 1 #[] #[] 1537 3 #[] #[])
  fields := #[]
  methods := #[]
  instanceTypes := #[]
  staticTypes := #[]
  resolved := Array.replicate 37 none
  statics := none }

def pool7 : Array CpInfo := pool [(1, .methodref 2 3), (0, .class_ 4), (0, .nameAndType 5 6), (0, u "java/lang/Object"), (0, u "<init>"), (0, u "()V"), (0, .string 8), (0, u ""), (0, .fieldref 10 11), (0, .class_ 12), (0, .nameAndType 13 14), (0, u "java/lang/String"), (0, u "value"), (0, u "[B"), (0, .fieldref 10 16), (0, .nameAndType 17 18), (0, u "coder"), (0, u "B"), (2, u "hash"), (0, u "I"), (2, u "hashIsZero"), (0, u "Z"), (0, .methodref 10 28), (0, .nameAndType 5 29), (0, u "([CIILjava/lang/Void;)V"), (8, .fieldref 10 39), (0, .nameAndType 40 26), (0, u "COMPACT_STRINGS"), (1, .class_ 44), (1, u "java/lang/StringUTF16"), (0, u "compress"), (1, .methodref 42 48), (0, .nameAndType 49 50), (0, u "coderFromArrayLen"), (0, u "([BI)B"), (56, .class_ 109), (1, u "java/lang/StringLatin1"), (67, .methodref 42 178), (0, .nameAndType 45 179), (0, u "([CII)[B"), (361, .methodref 107 542), (0, .nameAndType 543 544), (0, u "equals"), (0, u "([B[B)Z"), (28, u "(Ljava/lang/Object;)Z"), (1, .class_ 576), (0, u "java/lang/CharSequence"), (22, u "CASE_INSENSITIVE_ORDER"), (0, u "Ljava/util/Comparator;"), (409, u "([C)V"), (90, u "serialPersistentFields"), (0, u "[Ljava/io/ObjectStreamField;"), (0, .class_ 1104), (0, u "java/lang/String$CaseInsensitiveComparator"), (1, .class_ 1107), (0, u "java/io/Serializable"), (0, .class_ 1109), (0, u "java/lang/Comparable"), (0, .class_ 1111), (0, u "java/lang/constant/Constable"), (0, .class_ 1113), (0, u "java/lang/constant/ConstantDesc"), (2, u "serialVersionUID"), (0, u "J"), (3, u "REPL"), (0, u "C"), (2, u "LATIN1"), (1, u "UTF16")] 323

def k7m0 : Method := { name := "<init>", desc := "()V", sig := { parameters := [], returnType := none }, accessFlags := 1, code := none }
def k7c1 : Code := { maxStack := 5, maxLocals := 2, code := jdk_42_method_3_code, exceptionTable := #[], attributes := #[] }
def k7m1 : Method := { name := "<init>", desc := "([C)V", sig := { parameters := [(.array .char)], returnType := none }, accessFlags := 1, code := some k7c1 }
def k7c2 : Code := { maxStack := 2, maxLocals := 3, code := jdk_42_method_66_code, exceptionTable := #[], attributes := #[] }
def k7m2 : Method := { name := "equals", desc := "(Ljava/lang/Object;)Z", sig := { parameters := [(.object "java/lang/Object")], returnType := some .boolean }, accessFlags := 1, code := some k7c2 }
def k7c3 : Code := { maxStack := 4, maxLocals := 6, code := jdk_42_method_149_code, exceptionTable := #[], attributes := #[] }
def k7m3 : Method := { name := "<init>", desc := "([CIILjava/lang/Void;)V", sig := { parameters := [(.array .char), .int, .int, (.object "java/lang/Void")], returnType := none }, accessFlags := 2, code := some k7c3 }
/-- java/lang/String -/
def k7 : Class := { plain "java/lang/String" (some 0) with
  accessFlags := 49
  interfaces := #[2, 3, 4, 5, 6]
  cf := some (fileOf pool7 10 #[.nestMembers #[1103]] #[{ accessFlags := 1, nameIndex := 5, descriptorIndex := 6, attributes := #[] }, { accessFlags := 1, nameIndex := 5, descriptorIndex := 1010, attributes := #[] }, { accessFlags := 1, nameIndex := 543, descriptorIndex := 573, attributes := #[] }, { accessFlags := 2, nameIndex := 5, descriptorIndex := 29, attributes := #[] }] 49 2 #[1106, 1108, 575, 1110, 1112] #[{ accessFlags := 18, nameIndex := 13, descriptorIndex := 14, attributes := #[] }, { accessFlags := 18, nameIndex := 17, descriptorIndex := 18, attributes := #[] }, { accessFlags := 2, nameIndex := 21, descriptorIndex := 22, attributes := #[] }, { accessFlags := 2, nameIndex := 25, descriptorIndex := 26, attributes := #[] }, { accessFlags := 26, nameIndex := 1116, descriptorIndex := 1117, attributes := #[] }, { accessFlags := 24, nameIndex := 40, descriptorIndex := 26, attributes := #[] }, { accessFlags := 26, nameIndex := 1101, descriptorIndex := 1102, attributes := #[] }, { accessFlags := 26, nameIndex := 1121, descriptorIndex := 1122, attributes := #[] }, { accessFlags := 25, nameIndex := 599, descriptorIndex := 600, attributes := #[] }, { accessFlags := 24, nameIndex := 1125, descriptorIndex := 18, attributes := #[] }, { accessFlags := 24, nameIndex := 1127, descriptorIndex := 18, attributes := #[] }])
  fields := #[{ name := "value", type := (.array .byte), accessFlags := 18, slot := 0, constantValue := 0 }, { name := "coder", type := .byte, accessFlags := 18, slot := 1, constantValue := 0 }, { name := "hash", type := .int, accessFlags := 2, slot := 2, constantValue := 0 }, { name := "hashIsZero", type := .boolean, accessFlags := 2, slot := 3, constantValue := 0 }, { name := "serialVersionUID", type := .long, accessFlags := 26, slot := 0, constantValue := 0 }, { name := "COMPACT_STRINGS", type := .boolean, accessFlags := 24, slot := 1, constantValue := 0 }, { name := "serialPersistentFields", type := (.array (.object "java/io/ObjectStreamField")), accessFlags := 26, slot := 2, constantValue := 0 }, { name := "REPL", type := .char, accessFlags := 26, slot := 3, constantValue := 0 }, { name := "CASE_INSENSITIVE_ORDER", type := (.object "java/util/Comparator"), accessFlags := 25, slot := 4, constantValue := 0 }, { name := "LATIN1", type := .byte, accessFlags := 24, slot := 5, constantValue := 0 }, { name := "UTF16", type := .byte, accessFlags := 24, slot := 6, constantValue := 0 }]
  methods := #[k7m0, k7m1, k7m2, k7m3]
  instanceTypes := #[(.array .byte), .byte, .int, .boolean]
  staticTypes := #[.long, .boolean, (.array (.object "java/io/ObjectStreamField")), .char, (.object "java/util/Comparator"), .byte, .byte]
  resolved := Array.replicate 1451 none
  statics := some 0 }

def pool8 : Array CpInfo := pool [(6, .class_ 8), (1, u "java/lang/Object"), (0, u "<init>"), (0, u "()V"), (1, .class_ 14), (1, u "java/lang/StringUTF16"), (31, u "$assertionsDisabled"), (0, u "Z"), (13, u "HI_BYTE_SHIFT"), (0, u "I"), (2, u "LO_BYTE_SHIFT"), (49, .methodref 12 116), (0, .nameAndType 117 118), (0, u "compress"), (0, u "([CI[BII)I"), (3, u "([CII)[B"), (138, u "coderFromArrayLen"), (0, u "([BI)B"), (106, .class_ 371), (1, u "java/lang/StringUTF16$LinesSpliterator"), (58, u "MAX_LENGTH"), (196, .class_ 628), (0, u "java/lang/StringUTF16$CodePointsSpliterator"), (0, .class_ 630), (0, u "java/lang/StringUTF16$CharsSpliterator")] 4

def k8m0 : Method := { name := "<init>", desc := "()V", sig := { parameters := [], returnType := none }, accessFlags := 0, code := none }
def k8c1 : Code := { maxStack := 2, maxLocals := 2, code := jdk_52_method_15_code, exceptionTable := #[], attributes := #[] }
def k8m1 : Method := { name := "coderFromArrayLen", desc := "([BI)B", sig := { parameters := [(.array .byte), .int], returnType := some .byte }, accessFlags := 8, code := some k8c1 }
def k8c2 : Code := { maxStack := 5, maxLocals := 6, code := jdk_52_method_16_code, exceptionTable := #[], attributes := #[] }
def k8m2 : Method := { name := "compress", desc := "([CII)[B", sig := { parameters := [(.array .char), .int, .int], returnType := some (.array .byte) }, accessFlags := 9, code := some k8c2 }
def k8c3 : Code := { maxStack := 3, maxLocals := 7, code := jdk_52_method_21_code, exceptionTable := #[], attributes := #[] }
def k8m3 : Method := { name := "compress", desc := "([CI[BII)I", sig := { parameters := [(.array .char), .int, (.array .byte), .int, .int], returnType := some .int }, accessFlags := 9, code := some k8c3 }
/-- java/lang/StringUTF16 -/
def k8 : Class := { plain "java/lang/StringUTF16" (some 0) with
  accessFlags := 48
  interfaces := #[]
  cf := some (fileOf pool8 12 #[.nestMembers #[627, 629, 369]] #[{ accessFlags := 0, nameIndex := 9, descriptorIndex := 10, attributes := #[] }, { accessFlags := 8, nameIndex := 261, descriptorIndex := 262, attributes := #[] }, { accessFlags := 9, nameIndex := 117, descriptorIndex := 122, attributes := #[] }, { accessFlags := 9, nameIndex := 117, descriptorIndex := 118, attributes := #[] }] 48 6 #[] #[{ accessFlags := 26, nameIndex := 61, descriptorIndex := 62, attributes := #[] }, { accessFlags := 26, nameIndex := 65, descriptorIndex := 62, attributes := #[] }, { accessFlags := 24, nameIndex := 430, descriptorIndex := 62, attributes := #[] }, { accessFlags := 4120, nameIndex := 46, descriptorIndex := 47, attributes := #[] }])
  fields := #[{ name := "HI_BYTE_SHIFT", type := .int, accessFlags := 26, slot := 0, constantValue := 0 }, { name := "LO_BYTE_SHIFT", type := .int, accessFlags := 26, slot := 1, constantValue := 0 }, { name := "MAX_LENGTH", type := .int, accessFlags := 24, slot := 2, constantValue := 0 }, { name := "$assertionsDisabled", type := .boolean, accessFlags := 4120, slot := 3, constantValue := 0 }]
  methods := #[k8m0, k8m1, k8m2, k8m3]
  instanceTypes := #[]
  staticTypes := #[.int, .int, .int, .boolean]
  resolved := Array.replicate 635 none
  statics := none }

def pool9 : Array CpInfo := pool [(2, .class_ 4), (1, u "java/lang/Object"), (0, u "<init>"), (0, u "()V"), (3, .class_ 12), (1, u "java/lang/String"), (9, .class_ 24), (1, u "com/example/lease/lease/cli/OptionValues"), (20, .methodref 10 46), (0, .nameAndType 47 48), (0, u "equals"), (0, u "(Ljava/lang/Object;)Z"), (14, u "(Ljava/lang/String;[Ljava/lang/String;)Z"), (9, u "oneOf")] 36

def k9m0 : Method := { name := "<init>", desc := "()V", sig := { parameters := [], returnType := none }, accessFlags := 2, code := none }
def k9c1 : Code := { maxStack := 2, maxLocals := 6, code := prog_62_method_7_code, exceptionTable := #[], attributes := #[] }
def k9m1 : Method := { name := "oneOf", desc := "(Ljava/lang/String;[Ljava/lang/String;)Z", sig := { parameters := [(.object "java/lang/String"), (.array (.object "java/lang/String"))], returnType := some .boolean }, accessFlags := 136, code := some k9c1 }
/-- com/example/lease/lease/cli/OptionValues -/
def k9 : Class := { plain "com/example/lease/lease/cli/OptionValues" (some 0) with
  accessFlags := 32
  interfaces := #[]
  cf := some (fileOf pool9 22 #[] #[{ accessFlags := 2, nameIndex := 5, descriptorIndex := 6, attributes := #[] }, { accessFlags := 136, nameIndex := 73, descriptorIndex := 63, attributes := #[] }] 32 2 #[] #[])
  fields := #[]
  methods := #[k9m0, k9m1]
  instanceTypes := #[]
  staticTypes := #[]
  resolved := Array.replicate 110 none
  statics := none }

def pool10 : Array CpInfo := pool [(4, .class_ 6), (1, u "java/lang/Object"), (0, u "<init>"), (0, u "()V"), (5, .class_ 16), (1, u "java/lang/StringLatin1"), (104, u "$assertionsDisabled"), (0, u "Z"), (98, .class_ 223), (1, u "java/lang/StringLatin1$LinesSpliterator"), (57, u "equals"), (0, u "([B[B)Z"), (107, .class_ 391), (0, u "java/lang/StringLatin1$CharsSpliterator")] 3

def k10m0 : Method := { name := "<init>", desc := "()V", sig := { parameters := [], returnType := none }, accessFlags := 0, code := none }
def k10c1 : Code := { maxStack := 3, maxLocals := 3, code := jdk_43_method_13_code, exceptionTable := #[], attributes := #[] }
def k10m1 : Method := { name := "equals", desc := "([B[B)Z", sig := { parameters := [(.array .byte), (.array .byte)], returnType := some .boolean }, accessFlags := 9, code := some k10c1 }
/-- java/lang/StringLatin1 -/
def k10 : Class := { plain "java/lang/StringLatin1" (some 0) with
  accessFlags := 48
  interfaces := #[]
  cf := some (fileOf pool10 14 #[.nestMembers #[390, 221]] #[{ accessFlags := 0, nameIndex := 7, descriptorIndex := 8, attributes := #[] }, { accessFlags := 9, nameIndex := 281, descriptorIndex := 282, attributes := #[] }] 48 4 #[] #[{ accessFlags := 4120, nameIndex := 121, descriptorIndex := 122, attributes := #[] }])
  fields := #[{ name := "$assertionsDisabled", type := .boolean, accessFlags := 4120, slot := 0, constantValue := 0 }]
  methods := #[k10m0, k10m1]
  instanceTypes := #[]
  staticTypes := #[.boolean]
  resolved := Array.replicate 395 none
  statics := none }

def pool11 : Array CpInfo := pool [(2, .class_ 4), (1, u "java/lang/Object"), (0, u "<init>"), (0, u "()V"), (17, .class_ 26), (1, u "jdk/internal/util/Preconditions"), (28, .class_ 56), (0, u "jdk/internal/util/Preconditions$4"), (57, .class_ 115), (0, u "jdk/internal/util/Preconditions$1"), (7, u "SIOOBE_FORMATTER"), (0, u "Ljava/util/function/BiFunction;"), (0, .class_ 126), (0, u "jdk/internal/util/Preconditions$2"), (3, u "AIOOBE_FORMATTER"), (0, .class_ 132), (0, u "jdk/internal/util/Preconditions$3"), (3, u "IOOBE_FORMATTER")] 57

def k11m0 : Method := { name := "<init>", desc := "()V", sig := { parameters := [], returnType := none }, accessFlags := 1, code := none }
/-- jdk/internal/util/Preconditions -/
def k11 : Class := { plain "jdk/internal/util/Preconditions" (some 0) with
  accessFlags := 33
  interfaces := #[]
  cf := some (fileOf pool11 24 #[.nestMembers #[55, 131, 125, 114]] #[{ accessFlags := 1, nameIndex := 5, descriptorIndex := 6, attributes := #[] }] 33 2 #[] #[{ accessFlags := 25, nameIndex := 123, descriptorIndex := 124, attributes := #[] }, { accessFlags := 25, nameIndex := 130, descriptorIndex := 124, attributes := #[] }, { accessFlags := 25, nameIndex := 136, descriptorIndex := 124, attributes := #[] }])
  fields := #[{ name := "SIOOBE_FORMATTER", type := (.object "java/util/function/BiFunction"), accessFlags := 25, slot := 0, constantValue := 0 }, { name := "AIOOBE_FORMATTER", type := (.object "java/util/function/BiFunction"), accessFlags := 25, slot := 1, constantValue := 0 }, { name := "IOOBE_FORMATTER", type := (.object "java/util/function/BiFunction"), accessFlags := 25, slot := 2, constantValue := 0 }]
  methods := #[k11m0]
  instanceTypes := #[]
  staticTypes := #[(.object "java/util/function/BiFunction"), (.object "java/util/function/BiFunction"), (.object "java/util/function/BiFunction")]
  resolved := Array.replicate 194 none
  statics := some 1 }

def pool12 : Array CpInfo := pool [(9, u "<init>"), (6, .class_ 18), (1, u "java/lang/Object"), (0, u "()V"), (1, .class_ 23), (1, u "jdk/internal/util/ArraysSupport"), (0, u "LOG2_ARRAY_LONG_INDEX_SCALE"), (0, u "I"), (2, u "U"), (0, u "Ljdk/internal/misc/Unsafe;"), (8, u "BIG_ENDIAN"), (0, u "Z"), (8, u "LOG2_BYTE_BIT_SIZE"), (4, u "LOG2_ARRAY_INT_INDEX_SCALE"), (54, u "JLA"), (0, u "Ljdk/internal/access/JavaLangAccess;"), (11, u "LOG2_ARRAY_BOOLEAN_INDEX_SCALE"), (9, u "LOG2_ARRAY_BYTE_INDEX_SCALE"), (5, u "LOG2_ARRAY_CHAR_INDEX_SCALE"), (5, u "LOG2_ARRAY_SHORT_INDEX_SCALE"), (18, u "LOG2_ARRAY_FLOAT_INDEX_SCALE"), (24, u "LOG2_ARRAY_DOUBLE_INDEX_SCALE"), (89, u "T_BOOLEAN"), (2, u "T_CHAR"), (1, u "T_FLOAT"), (1, u "T_DOUBLE"), (1, u "T_BYTE"), (1, u "T_SHORT"), (1, u "T_INT"), (1, u "T_LONG"), (1, u "SOFT_MAX_ARRAY_LENGTH")] 83

def k12m0 : Method := { name := "<init>", desc := "()V", sig := { parameters := [], returnType := none }, accessFlags := 2, code := none }
/-- jdk/internal/util/ArraysSupport -/
def k12 : Class := { plain "jdk/internal/util/ArraysSupport" (some 0) with
  accessFlags := 33
  interfaces := #[]
  cf := some (fileOf pool12 21 #[] #[{ accessFlags := 2, nameIndex := 9, descriptorIndex := 19, attributes := #[] }] 33 16 #[] #[{ accessFlags := 24, nameIndex := 28, descriptorIndex := 29, attributes := #[] }, { accessFlags := 26, nameIndex := 38, descriptorIndex := 39, attributes := #[] }, { accessFlags := 25, nameIndex := 121, descriptorIndex := 25, attributes := #[] }, { accessFlags := 25, nameIndex := 131, descriptorIndex := 25, attributes := #[] }, { accessFlags := 25, nameIndex := 137, descriptorIndex := 25, attributes := #[] }, { accessFlags := 25, nameIndex := 143, descriptorIndex := 25, attributes := #[] }, { accessFlags := 25, nameIndex := 53, descriptorIndex := 25, attributes := #[] }, { accessFlags := 25, nameIndex := 24, descriptorIndex := 25, attributes := #[] }, { accessFlags := 25, nameIndex := 162, descriptorIndex := 25, attributes := #[] }, { accessFlags := 25, nameIndex := 187, descriptorIndex := 25, attributes := #[] }, { accessFlags := 26, nameIndex := 48, descriptorIndex := 25, attributes := #[] }, { accessFlags := 25, nameIndex := 277, descriptorIndex := 25, attributes := #[] }, { accessFlags := 25, nameIndex := 280, descriptorIndex := 25, attributes := #[] }, { accessFlags := 25, nameIndex := 282, descriptorIndex := 25, attributes := #[] }, { accessFlags := 25, nameIndex := 284, descriptorIndex := 25, attributes := #[] }, { accessFlags := 25, nameIndex := 286, descriptorIndex := 25, attributes := #[] }, { accessFlags := 25, nameIndex := 288, descriptorIndex := 25, attributes := #[] }, { accessFlags := 25, nameIndex := 290, descriptorIndex := 25, attributes := #[] }, { accessFlags := 25, nameIndex := 292, descriptorIndex := 25, attributes := #[] }, { accessFlags := 26, nameIndex := 108, descriptorIndex := 109, attributes := #[] }, { accessFlags := 25, nameIndex := 294, descriptorIndex := 25, attributes := #[] }])
  fields := #[{ name := "U", type := (.object "jdk/internal/misc/Unsafe"), accessFlags := 24, slot := 0, constantValue := 0 }, { name := "BIG_ENDIAN", type := .boolean, accessFlags := 26, slot := 1, constantValue := 0 }, { name := "LOG2_ARRAY_BOOLEAN_INDEX_SCALE", type := .int, accessFlags := 25, slot := 2, constantValue := 0 }, { name := "LOG2_ARRAY_BYTE_INDEX_SCALE", type := .int, accessFlags := 25, slot := 3, constantValue := 0 }, { name := "LOG2_ARRAY_CHAR_INDEX_SCALE", type := .int, accessFlags := 25, slot := 4, constantValue := 0 }, { name := "LOG2_ARRAY_SHORT_INDEX_SCALE", type := .int, accessFlags := 25, slot := 5, constantValue := 0 }, { name := "LOG2_ARRAY_INT_INDEX_SCALE", type := .int, accessFlags := 25, slot := 6, constantValue := 0 }, { name := "LOG2_ARRAY_LONG_INDEX_SCALE", type := .int, accessFlags := 25, slot := 7, constantValue := 0 }, { name := "LOG2_ARRAY_FLOAT_INDEX_SCALE", type := .int, accessFlags := 25, slot := 8, constantValue := 0 }, { name := "LOG2_ARRAY_DOUBLE_INDEX_SCALE", type := .int, accessFlags := 25, slot := 9, constantValue := 0 }, { name := "LOG2_BYTE_BIT_SIZE", type := .int, accessFlags := 26, slot := 10, constantValue := 0 }, { name := "T_BOOLEAN", type := .int, accessFlags := 25, slot := 11, constantValue := 0 }, { name := "T_CHAR", type := .int, accessFlags := 25, slot := 12, constantValue := 0 }, { name := "T_FLOAT", type := .int, accessFlags := 25, slot := 13, constantValue := 0 }, { name := "T_DOUBLE", type := .int, accessFlags := 25, slot := 14, constantValue := 0 }, { name := "T_BYTE", type := .int, accessFlags := 25, slot := 15, constantValue := 0 }, { name := "T_SHORT", type := .int, accessFlags := 25, slot := 16, constantValue := 0 }, { name := "T_INT", type := .int, accessFlags := 25, slot := 17, constantValue := 0 }, { name := "T_LONG", type := .int, accessFlags := 25, slot := 18, constantValue := 0 }, { name := "JLA", type := (.object "jdk/internal/access/JavaLangAccess"), accessFlags := 26, slot := 19, constantValue := 0 }, { name := "SOFT_MAX_ARRAY_LENGTH", type := .int, accessFlags := 25, slot := 20, constantValue := 0 }]
  methods := #[k12m0]
  instanceTypes := #[]
  staticTypes := #[(.object "jdk/internal/misc/Unsafe"), .boolean, .int, .int, .int, .int, .int, .int, .int, .int, .int, .int, .int, .int, .int, .int, .int, .int, .int, (.object "jdk/internal/access/JavaLangAccess"), .int]
  resolved := Array.replicate 378 none
  statics := none }

def pool13 : Array CpInfo := pool [(1, u "java/lang/Cloneable"), (0, .class_ 1), (0, u "java/lang/Object"), (0, .class_ 3)] 3

/-- java/lang/Cloneable -/
def k13 : Class := { plain "java/lang/Cloneable" (some 0) with
  accessFlags := 1537
  interfaces := #[]
  cf := some (fileOf pool13 2 #[] #[] 1537 4 #[] #[])
  fields := #[]
  methods := #[]
  instanceTypes := #[]
  staticTypes := #[]
  resolved := Array.replicate 8 none
  statics := none }

/-- the primitive byte -/
def k14 : Class := { plain "byte" none with kind := .primitive 'B', accessFlags := 0x411 }
/-- [B -/
def k15 : Class := { plain "[B" (some 0) with kind := .array 14 .byte, interfaces := #[13, 2], accessFlags := 1041 }

/-- the primitive char -/
def k16 : Class := { plain "char" none with kind := .primitive 'C', accessFlags := 0x411 }
/-- [C -/
def k17 : Class := { plain "[C" (some 0) with kind := .array 16 .char, interfaces := #[13, 2], accessFlags := 1041 }

/-- the primitive int -/
def k18 : Class := { plain "int" none with kind := .primitive 'I', accessFlags := 0x411 }
/-- [I -/
def k19 : Class := { plain "[I" (some 0) with kind := .array 18 .int, interfaces := #[13, 2], accessFlags := 1041 }

/-- [Ljava/lang/String; -/
def k20 : Class := { plain "[Ljava/lang/String;" (some 0) with kind := .array 7 (.object "java/lang/String"), interfaces := #[13, 2], accessFlags := 1041 }

def heap : Heap := #[{ cls := 7, slots := #[.long 0, .int 1, .null, .int 0, .null, .int 0, .int 0], vm := .statics 7 },
  { cls := 11, slots := #[.null, .null, .null], vm := .statics 11 }]
def classes : Array Class := #[k0, k1, k2, k3, k4, k5, k6, k7, k8, k9, k10, k11, k12, k13, k14, k15, k16, k17, k18, k19, k20]
def interned : List (Array UInt16 × Addr) := []
def slotsUsed : Nat := 10
def theMethod : MethodId := ⟨1, 2⟩
def args0 : Array Value := #[.int 5, .int 5, .int 5, .int 5, .int 5]
def aboutOver (below : List Frame) : State where
  vm := { classes := classes, interned := interned.toArray }
  heap := heap
  slotsUsed := slotsUsed
  threads := #[{ frames := .invoking theMethod args0 :: below }]
def below0 : List Frame := [.native { method := ⟨0, 0⟩, args := #[] }]
def about1 : State := aboutOver below0
def p0 : Program := .bare "" "" ""
def e0 : Env := launch0.env 0 0 0
theorem w_frames : about1.frames = Frame.invoking theMethod args0 :: below0 := rfl
set_option maxRecDepth 65536 in
theorem w_args : argsFit about1.vm theMethod args0 = true := by decide +kernel
set_option maxRecDepth 65536 in
theorem w_heap : heapFits about1 = true := by decide +kernel
set_option maxRecDepth 65536 in
theorem w_runnable : about1.curStatus? = some .runnable := by decide +kernel
set_option maxRecDepth 65536 in
theorem w_alone : about1.alone = true := by decide +kernel
set_option maxRecDepth 65536 in
theorem w_named : about1.methodNamed? x = some theMethod := by decide +kernel
set_option maxRecDepth 65536 in
theorem w_hears : about1.hears theMethod below0 = true := by decide +kernel
set_option maxRecDepth 65536 in
theorem w_ripe : about1.ripe theMethod args0 below0 = true := by decide +kernel
theorem w_running : about1.status = .running := rfl
set_option maxRecDepth 65536 in
theorem w_room : about1.hasRoom e0.platform room_1 = true :=
  launch0.hasRoom_least _ room_1 (by decide +kernel) (by decide +kernel) (by decide +kernel) (by decide +kernel) (by decide +kernel) (by decide +kernel)
theorem allAtoms_all (ts : List Jvm.Cond) (a : Array Jvm.Value) (st : Jvm.State) : (allAtoms ts).before a st = ts.all (fun c => c.before a st) := by
  induction ts with
  | nil => rfl
  | cons c t ih =>
    show (Jvm.Cond.and c (allAtoms t)).before a st = _
    rw [Jvm.Cond.before_and, ih, List.all_cons]
def words1 : List Jvm.Cond := Jvm.Cond.code x code maxLocals ret :: tables_1
/-- a 'code' word, met by the world's own term for the bytes: nothing is compared byte by byte -/
theorem code_word {y : MethodName} {bytes : ByteArray} {mx : Nat} {rt : Option FieldType} {a : Array Value} {s : State} {m : MethodId} {meth : Method} {c : Code} (h1 : s.methodNamed? y = some m) (h2 : s.vm.method? m = some meth) (h3 : meth.code = some c) (h4 : c.code = bytes)
    (h5 : (c.maxLocals == mx && c.exceptionTable.isEmpty && decide (c.maxStack ≤ mostOperands) && decide (meth.sig.returnType = rt) && !meth.locks && decide (parseMethodDescriptor y.desc = some meth.sig)) = true) : (Jvm.Cond.code y bytes mx rt).before a s = true := by
  simp only [Bool.and_eq_true, beq_iff_eq, Bool.not_eq_true', decide_eq_true_eq] at h5
  obtain ⟨⟨⟨⟨⟨g1, g2⟩, g3⟩, g4⟩, g5⟩, g6⟩ := h5
  simp [Cond.before, Cond.holds, Cond.value, h1, h2, h3, h4, g1, g2, g3, g4, g5, g6]
def isCode : Jvm.Cond → Bool
  | .code _ _ _ _ => true
  | _ => false
theorem all_split {L : List Jvm.Cond} {P : Jvm.Cond → Bool} (h1 : L.all (fun c => isCode c || P c) = true) (h2 : ∀ c ∈ L.filter isCode, P c = true) : L.all P = true := by
  refine List.all_eq_true.mpr fun c hc => ?_
  have h := List.all_eq_true.mp h1 c hc
  rcases Bool.eq_false_or_eq_true (isCode c) with hi | hi
  · exact h2 c (List.mem_filter.mpr ⟨hc, hi⟩)
  · simpa [hi] using h
set_option maxRecDepth 65536 in
theorem w_c0 : (Jvm.Cond.code x code maxLocals ret).before args0 about1 = true := code_word (m := ⟨1, 2⟩) (meth := k1m2) (c := k1c2) (by decide +kernel) rfl rfl rfl (by decide +kernel)
set_option maxRecDepth 65536 in
theorem w_c1 : (Jvm.Cond.code ({ cls := "com/example/lease/lease/cli/OptionValuesOneOfPinLaw", name := "mk", desc := "(I)Ljava/lang/String;" } : Jvm.MethodName) method_2_code (5 : Nat) (Option.some (Jvm.ClassFile.FieldType.object "java/lang/String"))).before args0 about1 = true := code_word (m := ⟨1, 1⟩) (meth := k1m1) (c := k1c1) (by decide +kernel) rfl rfl rfl (by decide +kernel)
set_option maxRecDepth 65536 in
theorem w_c2 : (Jvm.Cond.code ({ cls := "java/lang/String", name := "<init>", desc := "([C)V" } : Jvm.MethodName) jdk_42_method_3_code (2 : Nat) (Option.none : Option Jvm.ClassFile.FieldType)).before args0 about1 = true := code_word (m := ⟨7, 1⟩) (meth := k7m1) (c := k7c1) (by decide +kernel) rfl rfl rfl (by decide +kernel)
set_option maxRecDepth 65536 in
theorem w_c3 : (Jvm.Cond.code ({ cls := "java/lang/String", name := "<init>", desc := "([CIILjava/lang/Void;)V" } : Jvm.MethodName) jdk_42_method_149_code (6 : Nat) (Option.none : Option Jvm.ClassFile.FieldType)).before args0 about1 = true := code_word (m := ⟨7, 3⟩) (meth := k7m3) (c := k7c3) (by decide +kernel) rfl rfl rfl (by decide +kernel)
set_option maxRecDepth 65536 in
theorem w_c4 : (Jvm.Cond.code ({ cls := "java/lang/Object", name := "<init>", desc := "()V" } : Jvm.MethodName) object_method_1_code (1 : Nat) (Option.none : Option Jvm.ClassFile.FieldType)).before args0 about1 = true := code_word (m := ⟨0, 0⟩) (meth := k0m0) (c := k0c0) (by decide +kernel) rfl rfl rfl (by decide +kernel)
set_option maxRecDepth 65536 in
theorem w_c5 : (Jvm.Cond.code ({ cls := "java/lang/StringUTF16", name := "compress", desc := "([CII)[B" } : Jvm.MethodName) jdk_52_method_16_code (6 : Nat) (Option.some (Jvm.ClassFile.FieldType.array Jvm.ClassFile.FieldType.byte))).before args0 about1 = true := code_word (m := ⟨8, 2⟩) (meth := k8m2) (c := k8c2) (by decide +kernel) rfl rfl rfl (by decide +kernel)
set_option maxRecDepth 65536 in
theorem w_c6 : (Jvm.Cond.code ({ cls := "java/lang/StringUTF16", name := "compress", desc := "([CI[BII)I" } : Jvm.MethodName) jdk_52_method_21_code (7 : Nat) (Option.some Jvm.ClassFile.FieldType.int)).before args0 about1 = true := code_word (m := ⟨8, 3⟩) (meth := k8m3) (c := k8c3) (by decide +kernel) rfl rfl rfl (by decide +kernel)
set_option maxRecDepth 65536 in
theorem w_c7 : (Jvm.Cond.code ({ cls := "java/lang/StringUTF16", name := "coderFromArrayLen", desc := "([BI)B" } : Jvm.MethodName) jdk_52_method_15_code (2 : Nat) (Option.some Jvm.ClassFile.FieldType.byte)).before args0 about1 = true := code_word (m := ⟨8, 1⟩) (meth := k8m1) (c := k8c1) (by decide +kernel) rfl rfl rfl (by decide +kernel)
set_option maxRecDepth 65536 in
theorem w_c8 : (Jvm.Cond.code ({ cls := "com/example/lease/lease/cli/OptionValues", name := "oneOf", desc := "(Ljava/lang/String;[Ljava/lang/String;)Z" } : Jvm.MethodName) prog_62_method_7_code (6 : Nat) (Option.some Jvm.ClassFile.FieldType.boolean)).before args0 about1 = true := code_word (m := ⟨9, 1⟩) (meth := k9m1) (c := k9c1) (by decide +kernel) rfl rfl rfl (by decide +kernel)
set_option maxRecDepth 65536 in
theorem w_c9 : (Jvm.Cond.code ({ cls := "java/lang/String", name := "equals", desc := "(Ljava/lang/Object;)Z" } : Jvm.MethodName) jdk_42_method_66_code (3 : Nat) (Option.some Jvm.ClassFile.FieldType.boolean)).before args0 about1 = true := code_word (m := ⟨7, 2⟩) (meth := k7m2) (c := k7c2) (by decide +kernel) rfl rfl rfl (by decide +kernel)
set_option maxRecDepth 65536 in
theorem w_c10 : (Jvm.Cond.code ({ cls := "java/lang/StringLatin1", name := "equals", desc := "([B[B)Z" } : Jvm.MethodName) jdk_43_method_13_code (3 : Nat) (Option.some Jvm.ClassFile.FieldType.boolean)).before args0 about1 = true := code_word (m := ⟨10, 1⟩) (meth := k10m1) (c := k10c1) (by decide +kernel) rfl rfl rfl (by decide +kernel)
def codes1 : List Jvm.Cond := [Jvm.Cond.code x code maxLocals ret, Jvm.Cond.code ({ cls := "com/example/lease/lease/cli/OptionValuesOneOfPinLaw", name := "mk", desc := "(I)Ljava/lang/String;" } : Jvm.MethodName) method_2_code (5 : Nat) (Option.some (Jvm.ClassFile.FieldType.object "java/lang/String")), Jvm.Cond.code ({ cls := "java/lang/String", name := "<init>", desc := "([C)V" } : Jvm.MethodName) jdk_42_method_3_code (2 : Nat) (Option.none : Option Jvm.ClassFile.FieldType), Jvm.Cond.code ({ cls := "java/lang/String", name := "<init>", desc := "([CIILjava/lang/Void;)V" } : Jvm.MethodName) jdk_42_method_149_code (6 : Nat) (Option.none : Option Jvm.ClassFile.FieldType), Jvm.Cond.code ({ cls := "java/lang/Object", name := "<init>", desc := "()V" } : Jvm.MethodName) object_method_1_code (1 : Nat) (Option.none : Option Jvm.ClassFile.FieldType), Jvm.Cond.code ({ cls := "java/lang/StringUTF16", name := "compress", desc := "([CII)[B" } : Jvm.MethodName) jdk_52_method_16_code (6 : Nat) (Option.some (Jvm.ClassFile.FieldType.array Jvm.ClassFile.FieldType.byte)), Jvm.Cond.code ({ cls := "java/lang/StringUTF16", name := "compress", desc := "([CI[BII)I" } : Jvm.MethodName) jdk_52_method_21_code (7 : Nat) (Option.some Jvm.ClassFile.FieldType.int), Jvm.Cond.code ({ cls := "java/lang/StringUTF16", name := "coderFromArrayLen", desc := "([BI)B" } : Jvm.MethodName) jdk_52_method_15_code (2 : Nat) (Option.some Jvm.ClassFile.FieldType.byte), Jvm.Cond.code ({ cls := "com/example/lease/lease/cli/OptionValues", name := "oneOf", desc := "(Ljava/lang/String;[Ljava/lang/String;)Z" } : Jvm.MethodName) prog_62_method_7_code (6 : Nat) (Option.some Jvm.ClassFile.FieldType.boolean), Jvm.Cond.code ({ cls := "java/lang/String", name := "equals", desc := "(Ljava/lang/Object;)Z" } : Jvm.MethodName) jdk_42_method_66_code (3 : Nat) (Option.some Jvm.ClassFile.FieldType.boolean), Jvm.Cond.code ({ cls := "java/lang/StringLatin1", name := "equals", desc := "([B[B)Z" } : Jvm.MethodName) jdk_43_method_13_code (3 : Nat) (Option.some Jvm.ClassFile.FieldType.boolean)]
set_option maxRecDepth 65536 in
theorem codes_eq : words1.filter isCode = codes1 := rfl
theorem w_codes : ∀ c ∈ words1.filter isCode, c.before args0 about1 = true := by
  rw [codes_eq]
  intro c hc
  simp only [codes1, List.mem_cons, List.not_mem_nil, or_false] at hc
  rcases hc with rfl | rfl | rfl | rfl | rfl | rfl | rfl | rfl | rfl | rfl | rfl
  · exact w_c0
  · exact w_c1
  · exact w_c2
  · exact w_c3
  · exact w_c4
  · exact w_c5
  · exact w_c6
  · exact w_c7
  · exact w_c8
  · exact w_c9
  · exact w_c10
set_option maxRecDepth 65536 in
theorem w_t1 : (words1.take 24).all (fun c => isCode c || c.before args0 about1) = true := by decide +kernel
set_option maxRecDepth 65536 in
theorem w_t2 : ((words1.drop 24).take 24).all (fun c => isCode c || c.before args0 about1) = true := by decide +kernel
set_option maxRecDepth 65536 in
theorem w_t3 : ((words1.drop 24).drop 24).all (fun c => isCode c || c.before args0 about1) = true := by decide +kernel
theorem w_tables : (allAtoms (Jvm.Cond.code x code maxLocals ret :: tables_1)).before args0 about1 = true := by
  rw [allAtoms_all]
  show words1.all (fun c => c.before args0 about1) = true
  refine all_split ?_ w_codes
  rw [← List.take_append_drop 24 words1, List.all_append, w_t1, ← List.take_append_drop 24 (words1.drop 24), List.all_append, w_t2, w_t3]
  rfl
set_option maxRecDepth 65536 in
theorem w_rest : rest_1_c.before args0 about1 = true := by decide +kernel
set_option maxRecDepth 65536 in
theorem w_case : (Jvm.Cond.and given_1 narrow_1).before args0 about1 = true := by decide +kernel
set_option maxRecDepth 65536 in
theorem w_consts : constsHeld consts_1 about1 := Jvm.Lit.constsHeldB_iff.mp (by decide +kernel)
theorem w_applies : (headSpec (Jvm.Cond.code x code maxLocals ret :: tables_1) room_1).applies x e0.platform about1 = true :=
  (Spec.applies_iff w_frames).mpr ⟨w_running, w_runnable, w_alone, w_named, w_hears, w_ripe, w_room, w_tables⟩
theorem atStart : AtStart classFile x code maxLocals ret World_1 tables_1 room_1 Calls_1 rest_1 Pre_1 launch0 p0 e0 about1 theMethod args0 below0 :=
  ⟨lists_1, trivial, launch0.admits_env _ _ _, launch0.least_env, fairChoices_fair.cas, fairChoices_fair.clock, w_frames, w_args, w_heap, w_applies, ⟨w_consts, trivial⟩, w_rest, w_case⟩
end start1
theorem witness_1 : WitnessClaimed_1 := ⟨start1.p0, start1.e0, start1.about1, start1.theMethod, start1.args0, start1.below0, start1.atStart⟩
end Jvm.Pilot.@@N@@
