import JvmDerived
import JvmDerived.Pilot.@@N@@Statement
import JvmDerived.Pilot.@@N@@Code
set_option linter.unusedVariables false
set_option linter.unusedSimpArgs false
/- laws to paste: Road.backV (cut by pick.py; bodies as the Statement names them) -/
namespace Jvm.Pilot.@@N@@
namespace StrChars
open Jvm Sem ClassFile Op Lib Jvm.Stand Jvm.Free.XT Jvm.Free.ALB Jvm.Free.JM Jvm.Free
open Jvm.Lib.Cold (StaticIs)
/-- a char array whose places are chars -/
def Ch (a : Addr) (A : Cell) (U : State) : Prop := Arr .char a A U ∧ Typed .char A
theorem Ch.mv {a : Addr} {A : Cell} {U U' : State} (h : Ch a A U) (hal : U.vm.Alike U'.vm) (hh : U'.heap = U.heap) : Ch a A U' := ⟨h.1.mv hal hh, h.2⟩
theorem Ch.keep {a : Addr} {A : Cell} {U U' : State} (h : Ch a A U) (hal : U.vm.Alike U'.vm) (hk : U'.heap[a]? = some A) : Ch a A U' := ⟨h.1.keep hal hk, h.2⟩
/-- what place i of a char[]'s cell holds -/
def cv (A : Cell) (i : Nat) : Int32 := match A.slots[i]? with | some (.int x) => x | _ => 0
theorem Ch.get {a : Addr} {A : Cell} {U : State} (h : Ch a A U) {i : Nat} (hi : i < A.slots.size) : A.slots[i]? = some (.int (cv A i)) := by
  have e := Array.getElem?_eq_getElem hi
  have f := h.2 i _ e
  unfold cv; rw [e]
  generalize A.slots[i] = v at f
  cases v <;> simp [fits] at f ⊢
/-- the byte that i2b leaves of a char -/
def lo8 (x : Int32) : Int32 := x.toInt8.toInt32
theorem fits_lo8 (y : Int32) : fits .byte (.int (lo8 y)) = true := by
  have h1 := y.toInt8.le_toInt
  have h2 := y.toInt8.toInt_lt
  simp only [lo8, fits, Bool.and_eq_true, decide_eq_true_eq, Int32.le_iff_toInt_le, Int8.toInt_toInt32, show (-128 : Int32).toInt = -128 from by decide, show (127 : Int32).toInt = 127 from by decide]
  omega
/-- A' is A but that each place j of lo .. hi - 1 holds f j -/
def Laid (A A' : Cell) (lo hi : Nat) (f : Nat → Value) : Prop := A'.cls = A.cls ∧ A'.vm = A.vm ∧ A'.slots.size = A.slots.size ∧ ∀ i, A'.slots[i]? = if lo ≤ i ∧ i < hi then some (f i) else A.slots[i]?
theorem Laid.zero (A : Cell) (lo : Nat) (f : Nat → Value) : Laid A A lo (lo + 0) f := ⟨rfl, rfl, rfl, fun i => by rw [if_neg (by omega)]⟩
theorem Laid.step {A Ak : Cell} {lo k : Nat} {f : Nat → Value} {v : Value} (h : Laid A Ak lo k f) (hlo : lo ≤ k) (hk : k < Ak.slots.size) (hv : v = f k) : Laid A (Ak.setSlot k v) lo (k + 1) f := by
  refine ⟨h.1, h.2.1, by simpa [Cell.setSlot] using h.2.2.1, fun i => ?_⟩
  by_cases e : k = i
  · subst e; rw [Cell.slots_setSlot_self v hk, if_pos (by omega), hv]
  · rw [Cell.slots_setSlot_ne v e, h.2.2.2 i]
    by_cases q : lo ≤ i ∧ i < k
    · rw [if_pos q, if_pos (by omega)]
    · rw [if_neg q, if_neg (by omega)]
def U16 : String := "java/lang/StringUTF16"
namespace Cmp5
def yN : MethodName := ⟨"java/lang/StringUTF16", "compress", "([CI[BII)I"⟩
abbrev yB : ByteArray := jdk_52_method_21_code
theorem d0 : decode yB 0 = .ok (.iconst 0, 1) := by decide +kernel
theorem d1 : decode yB 1 = .ok (.istore 5, 2) := by decide +kernel
theorem d3 : decode yB 3 = .ok (.iload 5, 2) := by decide +kernel
theorem d5 : decode yB 5 = .ok (.iload 4, 2) := by decide +kernel
theorem d7 : decode yB 7 = .ok (.if_icmp (.ge) 37, 3) := by decide +kernel
theorem d10 : decode yB 10 = .ok (.aload_n 0, 1) := by decide +kernel
theorem d11 : decode yB 11 = .ok (.iload_n 1, 1) := by decide +kernel
theorem d12 : decode yB 12 = .ok (.caload, 1) := by decide +kernel
theorem d13 : decode yB 13 = .ok (.istore 6, 2) := by decide +kernel
theorem d15 : decode yB 15 = .ok (.iload 6, 2) := by decide +kernel
theorem d17 : decode yB 17 = .ok (.sipush 255, 3) := by decide +kernel
theorem d20 : decode yB 20 = .ok (.if_icmp (.le) 6, 3) := by decide +kernel
theorem d26 : decode yB 26 = .ok (.aload_n 2, 1) := by decide +kernel
theorem d27 : decode yB 27 = .ok (.iload_n 3, 1) := by decide +kernel
theorem d28 : decode yB 28 = .ok (.iload 6, 2) := by decide +kernel
theorem d30 : decode yB 30 = .ok (.i2b, 1) := by decide +kernel
theorem d31 : decode yB 31 = .ok (.bastore, 1) := by decide +kernel
theorem d32 : decode yB 32 = .ok (.iinc 1 1, 3) := by decide +kernel
theorem d35 : decode yB 35 = .ok (.iinc 3 1, 3) := by decide +kernel
theorem d38 : decode yB 38 = .ok (.iinc 5 1, 3) := by decide +kernel
theorem d41 : decode yB 41 = .ok (.goto (-38), 3) := by decide +kernel
theorem d44 : decode yB 44 = .ok (.iload 4, 2) := by decide +kernel
theorem d46 : decode yB 46 = .ok (.ireturn, 1) := by decide +kernel
def site : List Cond := []
def tab : Cond := tabOf yN yB 7 (some .int) site
def P (b : Addr) (A : Cell) (d : Addr) (B : Cell) (o q len : Nat) (args : Array Value) (s : State) : Prop := args = #[.ref b, .int (Int32.ofNat o), .ref d, .int (Int32.ofNat q), .int (Int32.ofNat len)] ∧ Ch b A s ∧ Arr .byte d B s ∧ b ≠ d ∧ o + len ≤ A.slots.size ∧ q + len ≤ B.slots.size ∧ ∀ i, i < len → ¬ 255 < cv A (o + i)
def E (b : Addr) (A : Cell) (d : Addr) (B : Cell) (o q len : Nat) (r : Option Value) (s u : State) : Prop := r = some (.int (Int32.ofNat len)) ∧ ∃ B', Put d B' s u ∧ Laid B B' q (q + len) (fun j => Value.int (lo8 (cv A (o + (j - q)))))
/-- no char of the range above 255: len; the places written hold each char's low byte -/
theorem law (l : Launch) (b : Addr) (A : Cell) (d : Addr) (B : Cell) (o q len : Nat) : Law l yN 5 5 0 0 yB 7 (some .int) site (P b A d B o q len) (E b A d B o q len) (copyLocs d q len) 0 0 := by
  refine Law.of_walk (plainFor_of_name (by decide +kernel)) (by decide +kernel) (by decide +kernel) (by decide) (fun _ _ h => by rw [h.1]; rfl) (fun _ U U' hal hh h => ⟨h.1, h.2.1.mv hal hh, h.2.2.1.mv hal hh, h.2.2.2⟩) (fun r U U' V V' h1 hal h2 h => ⟨h.1, h.2.elim fun B' q => ⟨B', q.1.mv h1 h2, q.2⟩⟩) ?_
  intro p e s m args below meth c s₁ X0 hexec hbytes hml hret hlk hnm hown hh0 W hP
  obtain ⟨rfl, hA, hB, hne, l1, l2, hp⟩ := hP
  have c1 : Steps p.tables e below (s₁.setTop (entryFrame m #[.ref b, .int (Int32.ofNat o), .ref d, .int (Int32.ofNat q), .int (Int32.ofNat len)] 7)) (s₁.setTop (mkF m 0 #[.val (.ref b), .val (.int (Int32.ofNat o)), .val (.ref d), .val (.int (Int32.ofNat q)), .val (.int (Int32.ofNat len)), .unset, .unset] [])) := entry rfl
  have hA0 := hA.1.mv X0.warmed.alike hh0
  have hB0 := hB.mv X0.warmed.alike hh0
  have a31 := hA.1.2.2.2
  have c2 : Steps p.tables e below (s₁.setTop (entryFrame m #[.ref b, .int (Int32.ofNat o), .ref d, .int (Int32.ofNat q), .int (Int32.ofNat len)] 7)) (s₁.setTop (mkF m 3 #[.val (.ref b), .val (.int (Int32.ofNat o)), .val (.ref d), .val (.int (Int32.ofNat q)), .val (.int (Int32.ofNat len)), .val (.int 0), .unset] [])) := c1.trans (by
    refine iconstV X0.here hexec rfl 0 (hb hbytes d0) (by decide) ?_
    refine XS.istore X0.here hexec rfl (hb hbytes d1) rfl rfl ?_
    exact Steps.refl _)
  have loop : ∀ (r i : Nat), i + r = len → ∀ (z : Slot), (z = .unset ∨ ∃ w, z = .val w ∧ w.category = 1) → ∀ (Tl : State) (Bk : Cell), Stand p l e { frames := 0, locals := 0, cells := 0, slots := 0 } s m #[.ref b, .int (Int32.ofNat o), .ref d, .int (Int32.ofNat q), .int (Int32.ofNat len)] below meth c Tl ([] ++ copyLocs d q i) 0 0 → Put d Bk s₁ Tl → Laid B Bk q (q + i) (fun j => Value.int (lo8 (cv A (o + (j - q))))) →
      Steps p.tables e below (s₁.setTop (entryFrame m #[.ref b, .int (Int32.ofNat o), .ref d, .int (Int32.ofNat q), .int (Int32.ofNat len)] 7)) (Tl.setTop (mkF m 3 #[.val (.ref b), .val (.int (Int32.ofNat (o + i))), .val (.ref d), .val (.int (Int32.ofNat (q + i))), .val (.int (Int32.ofNat len)), .val (.int (Int32.ofNat i)), z] [])) → ∃ (T' : State) (B' : Cell) (z' : Slot), Stand p l e { frames := 0, locals := 0, cells := 0, slots := 0 } s m #[.ref b, .int (Int32.ofNat o), .ref d, .int (Int32.ofNat q), .int (Int32.ofNat len)] below meth c T' ([] ++ copyLocs d q len) 0 0 ∧ Put d B' s₁ T' ∧ Laid B B' q (q + len) (fun j => Value.int (lo8 (cv A (o + (j - q))))) ∧
      Steps p.tables e below (s₁.setTop (entryFrame m #[.ref b, .int (Int32.ofNat o), .ref d, .int (Int32.ofNat q), .int (Int32.ofNat len)] 7)) (T'.setTop (mkF m 3 #[.val (.ref b), .val (.int (Int32.ofNat (o + len))), .val (.ref d), .val (.int (Int32.ofNat (q + len))), .val (.int (Int32.ofNat len)), .val (.int (Int32.ofNat len)), z'] [])) := by
    intro r
    induction r with
    | zero =>
      intro i hi z hz Tl Bk Xl pl fl cl
      have hil : i = len := by omega
      rw [hil] at Xl fl cl
      exact ⟨Tl, Bk, z, Xl, pl, fl, cl⟩
    | succ r ih =>
      intro i hi z hz Tl Bk Xl pl fl cl
      have all := X0.warmed.alike.symm.trans Xl.warmed.alike
      have hAl := hA0.keep all (pl.other hne hA0.1)
      have hBk := hB0.like all pl.1 fl.1 fl.2.1 fl.2.2.1
      have hlt : q + i < Bk.slots.size := by rw [fl.2.2.1]; omega
      have c3 : Steps p.tables e below (s₁.setTop (entryFrame m #[.ref b, .int (Int32.ofNat o), .ref d, .int (Int32.ofNat q), .int (Int32.ofNat len)] 7)) (Tl.setTop (mkF m 12 #[.val (.ref b), .val (.int (Int32.ofNat (o + i))), .val (.ref d), .val (.int (Int32.ofNat (q + i))), .val (.int (Int32.ofNat len)), .val (.int (Int32.ofNat i)), z] [.int (Int32.ofNat (o + i)), .ref b])) := cl.trans (by
        refine XS.iload Xl.here hexec rfl (hb hbytes d3) rfl ?_
        refine XS.iload Xl.here hexec rfl (hb hbytes d5) rfl ?_
        refine XS.icmpNo Xl.here hexec rfl (hb hbytes d7) rfl (ii_ge_f (lt32 (by omega) (by omega))) ?_
        refine XS.aloadN Xl.here hexec rfl (hb hbytes d10) rfl rfl ?_
        refine XS.iloadN Xl.here hexec rfl (hb hbytes d11) rfl ?_
        exact Steps.refl _)
      have c4 : Steps p.tables e below (s₁.setTop (entryFrame m #[.ref b, .int (Int32.ofNat o), .ref d, .int (Int32.ofNat q), .int (Int32.ofNat len)] 7)) (Tl.setTop (mkF m 13 #[.val (.ref b), .val (.int (Int32.ofNat (o + i))), .val (.ref d), .val (.int (Int32.ofNat (q + i))), .val (.int (Int32.ofNat len)), .val (.int (Int32.ofNat i)), z] [.int (cv A (o + i))])) := c3.trans (by
        refine Xl.aget hexec hAl rfl (hA.get (i := o + i) (by omega)) rfl rfl (hb hbytes d12) ?_
        exact Steps.refl _)
      have c5 : Steps p.tables e below (s₁.setTop (entryFrame m #[.ref b, .int (Int32.ofNat o), .ref d, .int (Int32.ofNat q), .int (Int32.ofNat len)] 7)) (Tl.setTop (mkF m 15 #[.val (.ref b), .val (.int (Int32.ofNat (o + i))), .val (.ref d), .val (.int (Int32.ofNat (q + i))), .val (.int (Int32.ofNat len)), .val (.int (Int32.ofNat i)), .val (.int (cv A (o + i)))] [])) := c4.trans (by
        refine XS.istoreS Xl.here hexec rfl (hb hbytes d13) rfl rfl hz ?_
        exact Steps.refl _)
      have c6 : Steps p.tables e below (s₁.setTop (entryFrame m #[.ref b, .int (Int32.ofNat o), .ref d, .int (Int32.ofNat q), .int (Int32.ofNat len)] 7)) (Tl.setTop (mkF m 31 #[.val (.ref b), .val (.int (Int32.ofNat (o + i))), .val (.ref d), .val (.int (Int32.ofNat (q + i))), .val (.int (Int32.ofNat len)), .val (.int (Int32.ofNat i)), .val (.int (cv A (o + i)))] [.int (lo8 (cv A (o + i))), .int (Int32.ofNat (q + i)), .ref d])) := c5.trans (by
        refine XS.iload Xl.here hexec rfl (hb hbytes d15) rfl ?_
        refine sipushV Xl.here hexec rfl 255 (hb hbytes d17) (by decide) ?_
        refine XS.icmpYes Xl.here hexec rfl (pc0 := 20) rfl (hb hbytes d20) rfl (ii_le_t (hp i (by omega))) (by decide) rfl ?_
        refine XS.aloadN Xl.here hexec rfl (hb hbytes d26) rfl rfl ?_
        refine XS.iloadN Xl.here hexec rfl (hb hbytes d27) rfl ?_
        refine XS.iload Xl.here hexec rfl (hb hbytes d28) rfl ?_
        refine i2b Xl.here hexec rfl (hb hbytes d30) rfl ?_
        exact Steps.refl _)
      obtain ⟨T7, X7, p7, st7⟩ := Xl.aput hexec hBk rfl hlt rfl (fits_lo8 (cv A (o + i))) (g := (mkF m 31 #[.val (.ref b), .val (.int (Int32.ofNat (o + i))), .val (.ref d), .val (.int (Int32.ofNat (q + i))), .val (.int (Int32.ofNat len)), .val (.int (Int32.ofNat i)), .val (.int (cv A (o + i)))] [.int (lo8 (cv A (o + i))), .int (Int32.ofNat (q + i)), .ref d])) rfl (rest := []) rfl (hb hbytes d31)
      have c8 : Steps p.tables e below (s₁.setTop (entryFrame m #[.ref b, .int (Int32.ofNat o), .ref d, .int (Int32.ofNat q), .int (Int32.ofNat len)] 7)) (T7.setTop (mkF m 32 #[.val (.ref b), .val (.int (Int32.ofNat (o + i))), .val (.ref d), .val (.int (Int32.ofNat (q + i))), .val (.int (Int32.ofNat len)), .val (.int (Int32.ofNat i)), .val (.int (cv A (o + i)))] [])) := c6.trans (st7 _ (Steps.refl _))
      have c9 : Steps p.tables e below (s₁.setTop (entryFrame m #[.ref b, .int (Int32.ofNat o), .ref d, .int (Int32.ofNat q), .int (Int32.ofNat len)] 7)) (T7.setTop (mkF m 3 #[.val (.ref b), .val (.int (Int32.ofNat (o + i) + 1)), .val (.ref d), .val (.int (Int32.ofNat (q + i) + 1)), .val (.int (Int32.ofNat len)), .val (.int (Int32.ofNat i + 1)), .val (.int (cv A (o + i)))] [])) := c8.trans (by
        refine iincV X7.here hexec rfl 1 (hb hbytes d32) (by decide) rfl rfl ?_
        refine iincV X7.here hexec rfl 1 (hb hbytes d35) (by decide) rfl rfl ?_
        refine iincV X7.here hexec rfl 1 (hb hbytes d38) (by decide) rfl rfl ?_
        refine XS.goto X7.here hexec rfl (pc0 := 41) rfl (hb hbytes d41) (by decide) rfl ?_
        exact Steps.refl _)
      have c10 : Steps p.tables e below (s₁.setTop (entryFrame m #[.ref b, .int (Int32.ofNat o), .ref d, .int (Int32.ofNat q), .int (Int32.ofNat len)] 7)) (T7.setTop (mkF m 3 #[.val (.ref b), .val (.int (Int32.ofNat (o + (i + 1)))), .val (.ref d), .val (.int (Int32.ofNat (q + (i + 1)))), .val (.int (Int32.ofNat len)), .val (.int (Int32.ofNat (i + 1))), .val (.int (cv A (o + i)))] [])) := by
        have := c9
        rw [succ32, succ32, succ32] at this
        exact this
      exact ih (i + 1) (by omega) _ (Or.inr ⟨_, rfl, rfl⟩) T7 _ (by rw [copyLocs_step, ← List.append_assoc]; exact X7) (pl.trans p7) (fl.step (by omega) hlt (by simp)) c10
  obtain ⟨T9, B9, z9, X9, p9, f9, g9⟩ := loop len 0 (by omega) .unset (Or.inl rfl) s₁ B (by simpa [copyLocs] using X0) ⟨hB0.1, fun _ _ => rfl, rfl⟩ (Laid.zero _ _ _) c2
  have c11 : Steps p.tables e below (s₁.setTop (entryFrame m #[.ref b, .int (Int32.ofNat o), .ref d, .int (Int32.ofNat q), .int (Int32.ofNat len)] 7)) (T9.setTop (mkF m 46 #[.val (.ref b), .val (.int (Int32.ofNat (o + len))), .val (.ref d), .val (.int (Int32.ofNat (q + len))), .val (.int (Int32.ofNat len)), .val (.int (Int32.ofNat len)), z9] [.int (Int32.ofNat len)])) := g9.trans (by
    refine XS.iload X9.here hexec rfl (hb hbytes d3) rfl ?_
    refine XS.iload X9.here hexec rfl (hb hbytes d5) rfl ?_
    refine XS.icmpYes X9.here hexec rfl (pc0 := 7) rfl (hb hbytes d7) rfl (ii_ge_t (nlt32 (by omega) (Nat.le_refl _))) (by decide) rfl ?_
    refine XS.iload X9.here hexec rfl (hb hbytes d44) rfl ?_
    exact Steps.refl _)
  exact ⟨T9, some (.int (Int32.ofNat len)), _, _, _, X9, by simp, rfl, rfl, (fun h => by cases h), ⟨rfl, B9, p9.from hh0, f9⟩, fun fs hl => c11.trans (X9.ireturnOut hexec hret rfl (Or.inl rfl) (hb hbytes d46) hl)⟩
end Cmp5
namespace Cmp3
def yN : MethodName := ⟨"java/lang/StringUTF16", "compress", "([CII)[B"⟩
abbrev yB : ByteArray := jdk_52_method_16_code
theorem d0 : decode yB 0 = .ok (.iload_n 2, 1) := by decide +kernel
theorem d1 : decode yB 1 = .ok (.newarray .byte, 2) := by decide +kernel
theorem d3 : decode yB 3 = .ok (.astore_n 3, 1) := by decide +kernel
theorem d4 : decode yB 4 = .ok (.aload_n 0, 1) := by decide +kernel
theorem d5 : decode yB 5 = .ok (.iload_n 1, 1) := by decide +kernel
theorem d6 : decode yB 6 = .ok (.aload_n 3, 1) := by decide +kernel
theorem d7 : decode yB 7 = .ok (.iconst 0, 1) := by decide +kernel
theorem d8 : decode yB 8 = .ok (.iload_n 2, 1) := by decide +kernel
theorem d9 : decode yB 9 = .ok (.invokestatic 115, 3) := by decide +kernel
theorem d12 : decode yB 12 = .ok (.istore 4, 2) := by decide +kernel
theorem d14 : decode yB 14 = .ok (.iload 4, 2) := by decide +kernel
theorem d16 : decode yB 16 = .ok (.iload_n 2, 1) := by decide +kernel
theorem d17 : decode yB 17 = .ok (.if_icmp (.eq) 40, 3) := by decide +kernel
theorem d57 : decode yB 57 = .ok (.aload_n 3, 1) := by decide +kernel
theorem d58 : decode yB 58 = .ok (.areturn, 1) := by decide +kernel
def site : List Cond := [.arrayClass .byte, Cmp5.tab] ++ staticW U16 115 Cmp5.yN
def tab : Cond := tabOf yN yB 6 (some (.array .byte)) site
def P (b : Addr) (A : Cell) (o len : Nat) (args : Array Value) (s : State) : Prop := args = #[.ref b, .int (Int32.ofNat o), .int (Int32.ofNat len)] ∧ Ch b A s ∧ o + len ≤ A.slots.size ∧ len ≤ 536870912 ∧ ∀ i, i < len → ¬ 255 < cv A (o + i)
def E (b : Addr) (A : Cell) (o len : Nat) (r : Option Value) (s u : State) : Prop := NewArr .byte "[B" len (fun j => .int (lo8 (cv A (o + j)))) r s u ∧ u.heap.size = s.heap.size + 1
/-- no char of the range above 255: a new byte[] of their low bytes -/
theorem law (l : Launch) (b : Addr) (A : Cell) (o len : Nat) : Law l yN 3 3 1 18 yB 6 (some (.array .byte)) site (P b A o len) (E b A o len) [] 1 len := by
  refine Law.of_walk (plainFor_of_name (by decide +kernel)) (by decide +kernel) (by decide +kernel) (by decide) (fun _ _ h => by rw [h.1]; rfl) (fun _ U U' hal hh h => ⟨h.1, h.2.1.mv hal hh, h.2.2⟩) (fun r U U' V V' h1 hal h2 h => ⟨NewArr.mv r U U' V V' h1 hal h2 h.1, by rw [h1, h2]; exact h.2⟩) ?_
  intro p e s m args below meth c s₁ X0 hexec hbytes hml hret hlk hnm hown hh0 W hP
  obtain ⟨rfl, hA, l1, l2, hp⟩ := hP
  have a31 := hA.1.2.2.2
  have c1 : Steps p.tables e below (s₁.setTop (entryFrame m #[.ref b, .int (Int32.ofNat o), .int (Int32.ofNat len)] 6)) (s₁.setTop (mkF m 0 #[.val (.ref b), .val (.int (Int32.ofNat o)), .val (.int (Int32.ofNat len)), .unset, .unset, .unset] [])) := entry rfl
  have c2 : Steps p.tables e below (s₁.setTop (entryFrame m #[.ref b, .int (Int32.ofNat o), .int (Int32.ofNat len)] 6)) (s₁.setTop (mkF m 1 #[.val (.ref b), .val (.int (Int32.ofNat o)), .val (.int (Int32.ofNat len)), .unset, .unset, .unset] [.int (Int32.ofNat len)])) := c1.trans (by
    refine XS.iloadN X0.here hexec rfl (hb hbytes d0) rfl ?_
    exact Steps.refl _)
  obtain ⟨T3, B3, X3, ba3, bs3, bv3, bh3, bf3, st3⟩ := X0.anew hexec (atype := .byte) (wk W (.arrayClass .byte)) rfl (by show len * 1 ≤ _; omega) (by omega) (g := (mkF m 1 #[.val (.ref b), .val (.int (Int32.ofNat o)), .val (.int (Int32.ofNat len)), .unset, .unset, .unset] [.int (Int32.ofNat len)])) rfl (hb hbytes d1) (rest := []) rfl (Nat.le_refl _) (by show 0 + len ≤ len; omega)
  rw [hh0] at ba3 st3
  have kp3 : XT.Kept s T3 := (XT.Kept.of_eq hh0).push bh3
  have hA3 := hA.keep X3.warmed.alike (kp3 _ _ hA.1.1)
  have hne : b ≠ s.heap.size := hA.1.ne
  have c4 : Steps p.tables e below (s₁.setTop (entryFrame m #[.ref b, .int (Int32.ofNat o), .int (Int32.ofNat len)] 6)) (T3.setTop (mkF m 3 #[.val (.ref b), .val (.int (Int32.ofNat o)), .val (.int (Int32.ofNat len)), .unset, .unset, .unset] [.ref s.heap.size])) := c2.trans (st3 _ (Steps.refl _))
  have c5 : Steps p.tables e below (s₁.setTop (entryFrame m #[.ref b, .int (Int32.ofNat o), .int (Int32.ofNat len)] 6)) (T3.setTop (mkF m 9 #[.val (.ref b), .val (.int (Int32.ofNat o)), .val (.int (Int32.ofNat len)), .val (.ref s.heap.size), .unset, .unset] [.int (Int32.ofNat len), .int 0, .ref s.heap.size, .int (Int32.ofNat o), .ref b])) := c4.trans (by
    refine XS.astoreN X3.here hexec rfl (hb hbytes d3) rfl rfl rfl ?_
    refine XS.aloadN X3.here hexec rfl (hb hbytes d4) rfl rfl ?_
    refine XS.iloadN X3.here hexec rfl (hb hbytes d5) rfl ?_
    refine XS.aloadN X3.here hexec rfl (hb hbytes d6) rfl rfl ?_
    refine iconstV X3.here hexec rfl 0 (hb hbytes d7) (by decide) ?_
    refine XS.iloadN X3.here hexec rfl (hb hbytes d8) rfl ?_
    exact Steps.refl _)
  obtain ⟨v6, T6, X6, E6, g6⟩ := X3.callS hexec (Cmp5.law l b A s.heap.size B3 o 0 len) hown (wks W (staticW U16 115 Cmp5.yN)) (wk W Cmp5.tab) (W := 0) (Nat.le_of_ble_eq_true rfl) (Nat.le_of_ble_eq_true rfl) (Nat.le_refl _) (by show 0 + len + 0 ≤ len; omega) (g := (mkF m 9 #[.val (.ref b), .val (.int (Int32.ofNat o)), .val (.int (Int32.ofNat len)), .val (.ref s.heap.size), .unset, .unset] [.int (Int32.ofNat len), .int (Int32.ofNat 0), .ref s.heap.size, .int (Int32.ofNat o), .ref b])) rfl (by rw [hml]; rfl) c5 (argsL := [.ref b, .int (Int32.ofNat o), .ref s.heap.size, .int (Int32.ofNat 0), .int (Int32.ofNat len)]) (rest := []) rfl rfl (by show 2 * 0 + 0 ≤ _; decide) (hb hbytes d9) (⟨rfl, hA3, ba3, hne, l1, by rw [bs3]; simp, hp⟩)
  obtain ⟨rfl, B6, p6, f6⟩ := E6
  have c7 : Steps p.tables e below (s₁.setTop (entryFrame m #[.ref b, .int (Int32.ofNat o), .int (Int32.ofNat len)] 6)) (T6.setTop (mkF m 12 #[.val (.ref b), .val (.int (Int32.ofNat o)), .val (.int (Int32.ofNat len)), .val (.ref s.heap.size), .unset, .unset] [.int (Int32.ofNat len)])) := g6
  have c8 : Steps p.tables e below (s₁.setTop (entryFrame m #[.ref b, .int (Int32.ofNat o), .int (Int32.ofNat len)] 6)) (T6.setTop (mkF m 58 #[.val (.ref b), .val (.int (Int32.ofNat o)), .val (.int (Int32.ofNat len)), .val (.ref s.heap.size), .val (.int (Int32.ofNat len)), .unset] [.ref s.heap.size])) := c7.trans (by
    refine XS.istore X6.here hexec rfl (hb hbytes d12) rfl rfl ?_
    refine XS.iload X6.here hexec rfl (hb hbytes d14) rfl ?_
    refine XS.iloadN X6.here hexec rfl (hb hbytes d16) rfl ?_
    refine XS.icmpYes X6.here hexec rfl (pc0 := 17) rfl (hb hbytes d17) rfl (ii_eq_t rfl) (by decide) rfl ?_
    refine XS.aloadN X6.here hexec rfl (hb hbytes d57) rfl rfl ?_
    exact Steps.refl _)
  have X8 := X6.wide (L' := []) (cells' := 1) (slots' := len) (fun x hx hlt => by
    simp only [List.nil_append, copyLocs, List.mem_map, List.mem_range] at hx
    obtain ⟨i, -, rfl⟩ := hx
    exact absurd hlt (Nat.lt_irrefl _)) (Nat.le_refl _) (by omega)
  exact ⟨T6, some (.ref s.heap.size), _, _, _, X8, rfl, rfl, rfl, (fun h => by cases h), ⟨⟨rfl, B6, ba3.like (X3.warmed.alike.symm.trans X6.warmed.alike) p6.1 f6.1 f6.2.1 f6.2.2.1, f6.2.1.trans bv3, by rw [X6.warmed.alike.findClass, f6.1]; exact bf3, by rw [f6.2.2.1, bs3]; simp, fun j hj => by rw [f6.2.2.2 j, if_pos (by omega)]; rfl, kp3.put p6 (Nat.le_refl _)⟩, by rw [p6.2.2, bh3, hh0]; simp⟩, fun fs hl => c8.trans (X8.areturnOut hexec rfl hret rfl (hb hbytes d58) hl)⟩
end Cmp3
namespace CodL
def yN : MethodName := ⟨"java/lang/StringUTF16", "coderFromArrayLen", "([BI)B"⟩
abbrev yB : ByteArray := jdk_52_method_15_code
theorem d0 : decode yB 0 = .ok (.iload_n 1, 1) := by decide +kernel
theorem d1 : decode yB 1 = .ok (.aload_n 0, 1) := by decide +kernel
theorem d2 : decode yB 2 = .ok (.arraylength, 1) := by decide +kernel
theorem d3 : decode yB 3 = .ok (.isub, 1) := by decide +kernel
theorem d4 : decode yB 4 = .ok (.bipush 31, 2) := by decide +kernel
theorem d6 : decode yB 6 = .ok (.iushr, 1) := by decide +kernel
theorem d7 : decode yB 7 = .ok (.i2b, 1) := by decide +kernel
theorem d8 : decode yB 8 = .ok (.ireturn, 1) := by decide +kernel
def site : List Cond := []
def tab : Cond := tabOf yN yB 2 (some .byte) site
def P (d : Addr) (B : Cell) (args : Array Value) (s : State) : Prop := args = #[.ref d, .int (Int32.ofNat B.slots.size)] ∧ Arr .byte d B s
def E (r : Option Value) (s u : State) : Prop := XT.PureE (some (.int 0)) r s u
/-- an array as long as the number of chars: LATIN1 -/
theorem law (l : Launch) (d : Addr) (B : Cell) : Law l yN 2 2 0 0 yB 2 (some .byte) site (P d B) E [] 0 0 := by
  refine Law.of_walk (plainFor_of_name (by decide +kernel)) (by decide +kernel) (by decide +kernel) (by decide) (fun _ _ h => by rw [h.1]; rfl) (fun _ U U' hal hh h => ⟨h.1, h.2.mv hal hh⟩) (fun r U U' V V' h1 hal h2 h => XT.PureE.mv r U U' V V' h1 hal h2 h) ?_
  intro p e s m args below meth c s₁ X0 hexec hbytes hml hret hlk hnm hown hh0 W hP
  obtain ⟨rfl, hB⟩ := hP
  have hB0 := hB.mv X0.warmed.alike hh0
  have c1 : Steps p.tables e below (s₁.setTop (entryFrame m #[.ref d, .int (Int32.ofNat B.slots.size)] 2)) (s₁.setTop (mkF m 0 #[.val (.ref d), .val (.int (Int32.ofNat B.slots.size))] [])) := entry rfl
  have c2 : Steps p.tables e below (s₁.setTop (entryFrame m #[.ref d, .int (Int32.ofNat B.slots.size)] 2)) (s₁.setTop (mkF m 2 #[.val (.ref d), .val (.int (Int32.ofNat B.slots.size))] [.ref d, .int (Int32.ofNat B.slots.size)])) := c1.trans (by
    refine XS.iloadN X0.here hexec rfl (hb hbytes d0) rfl ?_
    refine XS.aloadN X0.here hexec rfl (hb hbytes d1) rfl rfl ?_
    exact Steps.refl _)
  have c3 : Steps p.tables e below (s₁.setTop (entryFrame m #[.ref d, .int (Int32.ofNat B.slots.size)] 2)) (s₁.setTop (mkF m 8 #[.val (.ref d), .val (.int (Int32.ofNat B.slots.size))] [.int (lo8 (ushr (Int32.ofNat B.slots.size - Int32.ofNat B.slots.size) 31))])) := c2.trans (by
    refine X0.alen hexec hB0 rfl rfl (hb hbytes d2) ?_
    refine XS.isub X0.here hexec rfl (hb hbytes d3) rfl ?_
    refine bipushV X0.here hexec rfl 31 (hb hbytes d4) (by decide) ?_
    refine iushr X0.here hexec rfl (hb hbytes d6) rfl ?_
    refine i2b X0.here hexec rfl (hb hbytes d7) rfl ?_
    exact Steps.refl _)
  have e0 : lo8 (ushr (Int32.ofNat B.slots.size - Int32.ofNat B.slots.size) 31) = 0 := by rw [Int32.sub_self]; decide
  rw [e0] at c3
  exact ⟨s₁, some (.int 0), _, _, _, X0, rfl, rfl, rfl, (fun h => by cases h), ⟨rfl, hh0⟩, fun fs hl => c3.trans (X0.ireturnOut hexec hret rfl (Or.inr (Or.inr (Or.inl rfl))) (hb hbytes d8) hl)⟩
end CodL
/-- the String at a is Latin-1 over a new byte[] (the heap's one new cell): the low bytes of the len chars of A from o on; every cell but a is kept -/
def Got (a : Addr) (D : Cell) (fV fC : Field) (A : Cell) (o len : Nat) (r : Option Value) (s u : State) : Prop := r = none ∧ ∃ D' V : Cell, Blank "java/lang/String" a D' u ∧ Same D D' [fV.slot, fC.slot] ∧ D'.slots[fV.slot]? = some (.ref s.heap.size) ∧ D'.slots[fC.slot]? = some (.int 0) ∧ Arr .byte s.heap.size V u ∧ V.vm = .none ∧ u.vm.findClass "[B" = some V.cls ∧ V.slots.size = len ∧ (∀ j, j < len → V.slots[j]? = some (.int (lo8 (cv A (o + j))))) ∧ (∀ (y : Addr) (c : Cell), y ≠ a → s.heap[y]? = some c → u.heap[y]? = some c) ∧ u.heap.size = s.heap.size + 1
theorem Got.mv {a : Addr} {D A : Cell} {fV fC : Field} {o len : Nat} : ∀ r (U U' V V' : State), U'.heap = U.heap → V.vm.Alike V'.vm → V'.heap = V.heap → Got a D fV fC A o len r U V → Got a D fV fC A o len r U' V' :=
  fun r U U' V V' h1 hal h2 ⟨e0, D', X, a1, a2, a3, a4, a5, a6, a7, a8, a9, a10, a11⟩ => ⟨e0, D', X, a1.mv hal h2, a2, by rw [h1]; exact a3, a4, by rw [h1]; exact a5.mv hal h2, a6, by rw [hal.findClass]; exact a7, a8, a9, by rw [h1, h2]; exact a10, by rw [h1, h2]; exact a11⟩
namespace New4
def yN : MethodName := ⟨"java/lang/String", "<init>", "([CIILjava/lang/Void;)V"⟩
abbrev yB : ByteArray := jdk_42_method_149_code
theorem d0 : decode yB 0 = .ok (.aload_n 0, 1) := by decide +kernel
theorem d1 : decode yB 1 = .ok (.invokespecial 1, 3) := by decide +kernel
theorem d4 : decode yB 4 = .ok (.iload_n 3, 1) := by decide +kernel
theorem d5 : decode yB 5 = .ok (.ifCond (.ne) 22, 3) := by decide +kernel
theorem d27 : decode yB 27 = .ok (.getstatic 38, 3) := by decide +kernel
theorem d30 : decode yB 30 = .ok (.ifCond (.eq) 28, 3) := by decide +kernel
theorem d33 : decode yB 33 = .ok (.aload_n 1, 1) := by decide +kernel
theorem d34 : decode yB 34 = .ok (.iload_n 2, 1) := by decide +kernel
theorem d35 : decode yB 35 = .ok (.iload_n 3, 1) := by decide +kernel
theorem d36 : decode yB 36 = .ok (.invokestatic 177, 3) := by decide +kernel
theorem d39 : decode yB 39 = .ok (.astore 5, 2) := by decide +kernel
theorem d41 : decode yB 41 = .ok (.aload_n 0, 1) := by decide +kernel
theorem d42 : decode yB 42 = .ok (.aload 5, 2) := by decide +kernel
theorem d44 : decode yB 44 = .ok (.iload_n 3, 1) := by decide +kernel
theorem d45 : decode yB 45 = .ok (.invokestatic 47, 3) := by decide +kernel
theorem d48 : decode yB 48 = .ok (.putfield 15, 3) := by decide +kernel
theorem d51 : decode yB 51 = .ok (.aload_n 0, 1) := by decide +kernel
theorem d52 : decode yB 52 = .ok (.aload 5, 2) := by decide +kernel
theorem d54 : decode yB 54 = .ok (.putfield 9, 3) := by decide +kernel
theorem d57 : decode yB 57 = .ok (.return_, 1) := by decide +kernel
def site : List Cond := [.fieldLink "java/lang/String" 38 "java/lang/String" "COMPACT_STRINGS" "Z", Cmp3.tab, CodL.tab, .laysFinal "java/lang/String" "java/lang/String" "value" "[B", .fieldLink "java/lang/String" 9 "java/lang/String" "value" "[B", .laysFinal "java/lang/String" "java/lang/String" "coder" "B", .fieldLink "java/lang/String" 15 "java/lang/String" "coder" "B"] ++ objW "java/lang/String" 1 ++ staticW "java/lang/String" 177 Cmp3.yN ++ staticW "java/lang/String" 47 CodL.yN
def tab : Cond := tabOf yN yB 6 none site
def P (a : Addr) (D : Cell) (fV fC : Field) (b : Addr) (A : Cell) (z : Int32) (o len : Nat) (args : Array Value) (s : State) : Prop := args = #[.ref a, .ref b, .int (Int32.ofNat o), .int (Int32.ofNat len), .null] ∧ Blank "java/lang/String" a D s ∧ Found "java/lang/String" "value" "[B" fV s ∧ Found "java/lang/String" "coder" "B" fC s ∧ Ch b A s ∧ StaticIs s "java/lang/String" "COMPACT_STRINGS" "Z" (.int z) ∧ ¬ z = 0 ∧ 0 < len ∧ o + len ≤ A.slots.size ∧ len ≤ 536870912 ∧ ∀ i, i < len → ¬ 255 < cv A (o + i)
def E (a : Addr) (D : Cell) (fV fC : Field) (A : Cell) (o len : Nat) (r : Option Value) (s u : State) : Prop := Got a D fV fC A o len r s u
/-- len > 0, no char of the range above 255: a Latin-1 String of their low bytes -/
theorem law (l : Launch) (a : Addr) (D : Cell) (fV fC : Field) (b : Addr) (A : Cell) (z : Int32) (o len : Nat) : Law l yN 5 4 2 35 yB 6 none site (P a D fV fC b A z o len) (E a D fV fC A o len) [⟨a, fC.slot⟩, ⟨a, fV.slot⟩] 1 len := by
  refine Law.of_walk (plainFor_of_name (by decide +kernel)) (by decide +kernel) (by decide +kernel) (by decide) (fun _ _ h => by rw [h.1]; rfl) (fun _ U U' hal hh h => ⟨h.1, h.2.1.mv hal hh, h.2.2.1.al hal, h.2.2.2.1.al hal, h.2.2.2.2.1.mv hal hh, h.2.2.2.2.2.1.there hal hh, h.2.2.2.2.2.2⟩) (fun r U U' V V' h1 hal h2 h => Got.mv r U U' V V' h1 hal h2 h) ?_
  intro p e s m args below meth c s₁ X0 hexec hbytes hml hret hlk hnm hown hh0 W hP
  obtain ⟨rfl, hB, f1, f2, hA, s1, hz, l0, l1, l2, hp⟩ := hP
  have a31 := hA.1.2.2.2
  have c1 : Steps p.tables e below (s₁.setTop (entryFrame m #[.ref a, .ref b, .int (Int32.ofNat o), .int (Int32.ofNat len), .null] 6)) (s₁.setTop (mkF m 0 #[.val (.ref a), .val (.ref b), .val (.int (Int32.ofNat o)), .val (.int (Int32.ofNat len)), .val .null, .unset] [])) := entry rfl
  have c2 : Steps p.tables e below (s₁.setTop (entryFrame m #[.ref a, .ref b, .int (Int32.ofNat o), .int (Int32.ofNat len), .null] 6)) (s₁.setTop (mkF m 1 #[.val (.ref a), .val (.ref b), .val (.int (Int32.ofNat o)), .val (.int (Int32.ofNat len)), .val .null, .unset] [.ref a])) := c1.trans (by
    refine XS.aloadN X0.here hexec rfl (hb hbytes d0) rfl rfl ?_
    exact Steps.refl _)
  obtain ⟨T3, X3, q3, st3⟩ := X0.oinit hexec hown (wks W (objW "java/lang/String" 1)) (g := (mkF m 1 #[.val (.ref a), .val (.ref b), .val (.int (Int32.ofNat o)), .val (.int (Int32.ofNat len)), .val .null, .unset] [.ref a])) rfl (by rw [hml]; rfl) (rest := []) rfl (hb hbytes d1) (W := 0) (by show 2 * 0 + 0 ≤ _; decide) (Nat.le_of_ble_eq_true rfl) (Nat.le_of_ble_eq_true rfl)
  have hh3 := q3.trans hh0
  have c4 : Steps p.tables e below (s₁.setTop (entryFrame m #[.ref a, .ref b, .int (Int32.ofNat o), .int (Int32.ofNat len), .null] 6)) (T3.setTop (mkF m 27 #[.val (.ref a), .val (.ref b), .val (.int (Int32.ofNat o)), .val (.int (Int32.ofNat len)), .val .null, .unset] [])) := (c2.trans (st3 _ (Steps.refl _))).trans (by
    refine XS.iloadN X3.here hexec rfl (hb hbytes d4) rfl ?_
    refine XS.ifYes X3.here hexec rfl (pc0 := 5) rfl (hb hbytes d5) rfl (i0_ne_t (nz32 (by omega) l0)) (by decide) rfl ?_
    exact Steps.refl _)
  obtain ⟨T5, X5, q5, st5⟩ := X3.sget hexec hown (wk W (.fieldLink "java/lang/String" 38 "java/lang/String" "COMPACT_STRINGS" "Z")) s1 (fun _ _ h => by rw [hh3]; exact h) (g := (mkF m 27 #[.val (.ref a), .val (.ref b), .val (.int (Int32.ofNat o)), .val (.int (Int32.ofNat len)), .val .null, .unset] [])) rfl (hb hbytes d27)
  have hh5 := q5.trans hh3
  have c6 : Steps p.tables e below (s₁.setTop (entryFrame m #[.ref a, .ref b, .int (Int32.ofNat o), .int (Int32.ofNat len), .null] 6)) (T5.setTop (mkF m 30 #[.val (.ref a), .val (.ref b), .val (.int (Int32.ofNat o)), .val (.int (Int32.ofNat len)), .val .null, .unset] [.int z])) := c4.trans (st5 _ (Steps.refl _))
  have c7 : Steps p.tables e below (s₁.setTop (entryFrame m #[.ref a, .ref b, .int (Int32.ofNat o), .int (Int32.ofNat len), .null] 6)) (T5.setTop (mkF m 36 #[.val (.ref a), .val (.ref b), .val (.int (Int32.ofNat o)), .val (.int (Int32.ofNat len)), .val .null, .unset] [.int (Int32.ofNat len), .int (Int32.ofNat o), .ref b])) := c6.trans (by
    refine XS.ifNo X5.here hexec rfl (hb hbytes d30) rfl (i0_eq_f hz) ?_
    refine XS.aloadN X5.here hexec rfl (hb hbytes d33) rfl rfl ?_
    refine XS.iloadN X5.here hexec rfl (hb hbytes d34) rfl ?_
    refine XS.iloadN X5.here hexec rfl (hb hbytes d35) rfl ?_
    exact Steps.refl _)
  obtain ⟨v8, T8, X8, E8, g8⟩ := X5.callS hexec (Cmp3.law l b A o len) hown (wks W (staticW "java/lang/String" 177 Cmp3.yN)) (wk W Cmp3.tab) (W := 0) (Nat.le_of_ble_eq_true rfl) (Nat.le_of_ble_eq_true rfl) (Nat.le_refl _) (by show 0 + len ≤ len; omega) (g := (mkF m 36 #[.val (.ref a), .val (.ref b), .val (.int (Int32.ofNat o)), .val (.int (Int32.ofNat len)), .val .null, .unset] [.int (Int32.ofNat len), .int (Int32.ofNat o), .ref b])) rfl (by rw [hml]; rfl) c7 (argsL := [.ref b, .int (Int32.ofNat o), .int (Int32.ofNat len)]) (rest := []) rfl rfl (by show 2 * 0 + 0 ≤ _; decide) (hb hbytes d36) (⟨rfl, hA.mv X5.warmed.alike hh5, l1, l2, hp⟩)
  obtain ⟨e8, z8⟩ := E8
  obtain ⟨rfl, N, n1, n2, n3, n4, n5, n6⟩ := NewArr.mv _ T5 s _ _ hh5.symm (Vm.Alike.refl _) rfl e8
  rw [hh5] at z8
  have hB1 := hB.keep X8.warmed.alike (n6 _ _ hB.1)
  have hne : s.heap.size ≠ a := (Nat.ne_of_lt (Array.getElem?_eq_some_iff.mp hB.1).1).symm
  have c9 : Steps p.tables e below (s₁.setTop (entryFrame m #[.ref a, .ref b, .int (Int32.ofNat o), .int (Int32.ofNat len), .null] 6)) (T8.setTop (mkF m 39 #[.val (.ref a), .val (.ref b), .val (.int (Int32.ofNat o)), .val (.int (Int32.ofNat len)), .val .null, .unset] [.ref s.heap.size])) := g8
  have c10 : Steps p.tables e below (s₁.setTop (entryFrame m #[.ref a, .ref b, .int (Int32.ofNat o), .int (Int32.ofNat len), .null] 6)) (T8.setTop (mkF m 45 #[.val (.ref a), .val (.ref b), .val (.int (Int32.ofNat o)), .val (.int (Int32.ofNat len)), .val .null, .val (.ref s.heap.size)] [.int (Int32.ofNat N.slots.size), .ref s.heap.size, .ref a])) := by
    have hc : Steps p.tables e below (s₁.setTop (entryFrame m #[.ref a, .ref b, .int (Int32.ofNat o), .int (Int32.ofNat len), .null] 6)) (T8.setTop (mkF m 45 #[.val (.ref a), .val (.ref b), .val (.int (Int32.ofNat o)), .val (.int (Int32.ofNat len)), .val .null, .val (.ref s.heap.size)] [.int (Int32.ofNat len), .ref s.heap.size, .ref a])) := c9.trans (by
      refine XS.astore X8.here hexec rfl (hb hbytes d39) rfl rfl rfl ?_
      refine XS.aloadN X8.here hexec rfl (hb hbytes d41) rfl rfl ?_
      refine XS.aload X8.here hexec rfl (hb hbytes d42) rfl rfl ?_
      refine XS.iloadN X8.here hexec rfl (hb hbytes d44) rfl ?_
      exact Steps.refl _)
    rw [n4]; exact hc
  obtain ⟨v11, T11, X11, E11, g11⟩ := X8.callS hexec (CodL.law l s.heap.size N) hown (wks W (staticW "java/lang/String" 47 CodL.yN)) (wk W CodL.tab) (W := 1) (Nat.le_of_ble_eq_true rfl) (Nat.le_of_ble_eq_true rfl) (Nat.le_refl _) (by show 0 + len + 0 ≤ len; omega) (g := (mkF m 45 #[.val (.ref a), .val (.ref b), .val (.int (Int32.ofNat o)), .val (.int (Int32.ofNat len)), .val .null, .val (.ref s.heap.size)] [.int (Int32.ofNat N.slots.size), .ref s.heap.size, .ref a])) rfl (by rw [hml]; rfl) c10 (argsL := [.ref s.heap.size, .int (Int32.ofNat N.slots.size)]) (rest := [.ref a]) rfl rfl (by show 2 * 0 + (1 + 0) ≤ _; decide) (hb hbytes d45) (⟨rfl, n1⟩)
  obtain ⟨rfl, q11⟩ := E11
  have hB11 := hB1.mv (X8.warmed.alike.symm.trans X11.warmed.alike) q11
  have c12 : Steps p.tables e below (s₁.setTop (entryFrame m #[.ref a, .ref b, .int (Int32.ofNat o), .int (Int32.ofNat len), .null] 6)) (T11.setTop (mkF m 48 #[.val (.ref a), .val (.ref b), .val (.int (Int32.ofNat o)), .val (.int (Int32.ofNat len)), .val .null, .val (.ref s.heap.size)] [.int 0, .ref a])) := g11
  obtain ⟨T13, X13, p13, bl13, sl13, st13⟩ := X11.finit hexec hown (wk W (.fieldLink "java/lang/String" 15 "java/lang/String" "coder" "B")) (Or.inr ⟨_, (wk W (.laysFinal "java/lang/String" "java/lang/String" "coder" "B"))⟩) (Or.inl ⟨rfl, hnm⟩) f2 (Or.inl rfl) hB11 (t := .byte) (by decide +kernel) rfl (g := (mkF m 48 #[.val (.ref a), .val (.ref b), .val (.int (Int32.ofNat o)), .val (.int (Int32.ofNat len)), .val .null, .val (.ref s.heap.size)] [.int 0, .ref a])) rfl (rest := []) rfl (hb hbytes d48)
  have c14 : Steps p.tables e below (s₁.setTop (entryFrame m #[.ref a, .ref b, .int (Int32.ofNat o), .int (Int32.ofNat len), .null] 6)) (T13.setTop (mkF m 54 #[.val (.ref a), .val (.ref b), .val (.int (Int32.ofNat o)), .val (.int (Int32.ofNat len)), .val .null, .val (.ref s.heap.size)] [.ref s.heap.size, .ref a])) := (c12.trans (st13 _ (Steps.refl _))).trans (by
    refine XS.aloadN X13.here hexec rfl (hb hbytes d51) rfl rfl ?_
    refine XS.aload X13.here hexec rfl (hb hbytes d52) rfl rfl ?_
    exact Steps.refl _)
  obtain ⟨T15, X15, p15, bl15, sl15, st15⟩ := X13.finit hexec hown (wk W (.fieldLink "java/lang/String" 9 "java/lang/String" "value" "[B")) (Or.inr ⟨_, (wk W (.laysFinal "java/lang/String" "java/lang/String" "value" "[B"))⟩) (Or.inl ⟨rfl, hnm⟩) f1 (Or.inl rfl) bl13 (t := (.array .byte)) (by decide +kernel) rfl (g := (mkF m 54 #[.val (.ref a), .val (.ref b), .val (.int (Int32.ofNat o)), .val (.int (Int32.ofNat len)), .val .null, .val (.ref s.heap.size)] [.ref s.heap.size, .ref a])) rfl (rest := []) rfl (hb hbytes d54)
  have c16 : Steps p.tables e below (s₁.setTop (entryFrame m #[.ref a, .ref b, .int (Int32.ofNat o), .int (Int32.ofNat len), .null] 6)) (T15.setTop (mkF m 57 #[.val (.ref a), .val (.ref b), .val (.int (Int32.ofNat o)), .val (.int (Int32.ofNat len)), .val .null, .val (.ref s.heap.size)] [])) := c14.trans (st15 _ (Steps.refl _))
  have ap := apart (Or.inr ⟨_, (wk W (.laysFinal "java/lang/String" "java/lang/String" "value" "[B"))⟩) (Or.inr ⟨_, (wk W (.laysFinal "java/lang/String" "java/lang/String" "coder" "B"))⟩) f1 f2 (t₁ := .array .byte) (t₂ := .byte) (by decide +kernel) (by decide +kernel) (by decide)
  have al := X8.warmed.alike.symm.trans X15.warmed.alike
  have n7 : T11.heap[s.heap.size]? = some N := by rw [q11]; exact n1.1
  exact ⟨T15, none, _, _, _, X15, by simp, rfl, by omega, (fun _ => rfl), ⟨rfl, _, N, bl15, ((Same.refl D _).set _ (by simp)).set _ (by simp), sl15, (Cell.slots_setSlot_ne _ ap).trans sl13, n1.keep al (p15.other hne (p13.other hne n7)), n2, by rw [al.findClass]; exact n3, n4, n5, fun y c h1 h2 => p15.other h1 (p13.other h1 (by rw [q11]; exact n6 y c h2)), by rw [p15.2.2, p13.2.2, q11]; exact z8⟩, fun fs hl => c16.trans (X15.returnOut hexec hret (hb hbytes d57) hl)⟩
end New4
namespace New1
def yN : MethodName := ⟨"java/lang/String", "<init>", "([C)V"⟩
abbrev yB : ByteArray := jdk_42_method_3_code
theorem d0 : decode yB 0 = .ok (.aload_n 0, 1) := by decide +kernel
theorem d1 : decode yB 1 = .ok (.aload_n 1, 1) := by decide +kernel
theorem d2 : decode yB 2 = .ok (.iconst 0, 1) := by decide +kernel
theorem d3 : decode yB 3 = .ok (.aload_n 1, 1) := by decide +kernel
theorem d4 : decode yB 4 = .ok (.arraylength, 1) := by decide +kernel
theorem d5 : decode yB 5 = .ok (.aconst_null, 1) := by decide +kernel
theorem d6 : decode yB 6 = .ok (.invokespecial 27, 3) := by decide +kernel
theorem d9 : decode yB 9 = .ok (.return_, 1) := by decide +kernel
def site : List Cond := [New4.tab] ++ initW "java/lang/String" 27 New4.yN
def tab : Cond := tabOf yN yB 2 none site
def P (a : Addr) (D : Cell) (fV fC : Field) (b : Addr) (A : Cell) (z : Int32) (args : Array Value) (s : State) : Prop := args = #[.ref a, .ref b] ∧ Blank "java/lang/String" a D s ∧ Found "java/lang/String" "value" "[B" fV s ∧ Found "java/lang/String" "coder" "B" fC s ∧ Ch b A s ∧ StaticIs s "java/lang/String" "COMPACT_STRINGS" "Z" (.int z) ∧ ¬ z = 0 ∧ 0 < A.slots.size ∧ A.slots.size ≤ 536870912 ∧ ∀ i, i < A.slots.size → ¬ 255 < cv A i
def E (a : Addr) (D : Cell) (fV fC : Field) (A : Cell) (r : Option Value) (s u : State) : Prop := Got a D fV fC A 0 A.slots.size r s u
/-- new String(chars), not empty, no char above 255: a Latin-1 String of their low bytes -/
theorem law (l : Launch) (a : Addr) (D : Cell) (fV fC : Field) (b : Addr) (A : Cell) (z : Int32) : Law l yN 2 1 3 52 yB 2 none site (P a D fV fC b A z) (E a D fV fC A) [⟨a, fC.slot⟩, ⟨a, fV.slot⟩] 1 A.slots.size := by
  refine Law.of_walk (plainFor_of_name (by decide +kernel)) (by decide +kernel) (by decide +kernel) (by decide) (fun _ _ h => by rw [h.1]; rfl) (fun _ U U' hal hh h => ⟨h.1, h.2.1.mv hal hh, h.2.2.1.al hal, h.2.2.2.1.al hal, h.2.2.2.2.1.mv hal hh, h.2.2.2.2.2.1.there hal hh, h.2.2.2.2.2.2⟩) (fun r U U' V V' h1 hal h2 h => Got.mv r U U' V V' h1 hal h2 h) ?_
  intro p e s m args below meth c s₁ X0 hexec hbytes hml hret hlk hnm hown hh0 W hP
  obtain ⟨rfl, hB, f1, f2, hA, s1, hz, l0, l2, hp⟩ := hP
  have c1 : Steps p.tables e below (s₁.setTop (entryFrame m #[.ref a, .ref b] 2)) (s₁.setTop (mkF m 0 #[.val (.ref a), .val (.ref b)] [])) := entry rfl
  have c2 : Steps p.tables e below (s₁.setTop (entryFrame m #[.ref a, .ref b] 2)) (s₁.setTop (mkF m 6 #[.val (.ref a), .val (.ref b)] [.null, .int (Int32.ofNat A.slots.size), .int 0, .ref b, .ref a])) := c1.trans (by
    refine XS.aloadN X0.here hexec rfl (hb hbytes d0) rfl rfl ?_
    refine XS.aloadN X0.here hexec rfl (hb hbytes d1) rfl rfl ?_
    refine iconstV X0.here hexec rfl 0 (hb hbytes d2) (by decide) ?_
    refine XS.aloadN X0.here hexec rfl (hb hbytes d3) rfl rfl ?_
    refine X0.alen hexec (hA.1.mv X0.warmed.alike hh0) rfl rfl (hb hbytes d4) ?_
    refine XS.aconstNull X0.here hexec rfl (hb hbytes d5) ?_
    exact Steps.refl _)
  obtain ⟨v3, T3, X3, E3, g3⟩ := X0.callN hexec (New4.law l a D fV fC b A z 0 A.slots.size) rfl hown (wks W (initW "java/lang/String" 27 New4.yN)) (W New4.tab (by simp only [site, List.mem_cons, List.mem_append, true_or, or_true])) (W := 0) (Nat.le_of_ble_eq_true rfl) (Nat.le_of_ble_eq_true rfl) (Nat.le_refl _) (by show 0 + A.slots.size ≤ A.slots.size; omega) (g := (mkF m 6 #[.val (.ref a), .val (.ref b)] [.null, .int (Int32.ofNat A.slots.size), .int (Int32.ofNat 0), .ref b, .ref a])) rfl (by rw [hml]; rfl) c2 (argsL := [.ref b, .int (Int32.ofNat 0), .int (Int32.ofNat A.slots.size), .null]) (rest := []) rfl rfl (by show 2 * 0 + 0 ≤ _; decide) (hb hbytes d6) (⟨rfl, hB.mv X0.warmed.alike hh0, f1.al X0.warmed.alike, f2.al X0.warmed.alike, hA.mv X0.warmed.alike hh0, s1.there X0.warmed.alike hh0, hz, l0, by omega, l2, fun i hi => by rw [Nat.zero_add]; exact hp i hi⟩)
  have e0 := Got.mv _ s₁ s _ _ hh0.symm (Vm.Alike.refl _) rfl E3
  obtain rfl := e0.1
  have c4 : Steps p.tables e below (s₁.setTop (entryFrame m #[.ref a, .ref b] 2)) (T3.setTop (mkF m 9 #[.val (.ref a), .val (.ref b)] [])) := g3
  exact ⟨T3, none, _, _, _, X3, by simp, rfl, by omega, (fun _ => rfl), e0, fun fs hl => c4.trans (X3.returnOut hexec hret (hb hbytes d9) hl)⟩
theorem pays {l : Launch} {R : Room} {p : Program} {e : Env} {below : List Frame} {s : State} {sargs : Array Value} {len W : Nat} (a : Addr) (D : Cell) (fV fC : Field) (b : Addr) (A : Cell) (z : Int32) (htab : tab.before sargs s = true) (hfr : 4 ≤ R.frames) (hlo : W + 65 ≤ R.locals) :
    Back l R p e below s sargs yN len W (fun A₁ a₁ => A₁.cells + 1 ≤ R.cells ∧ A₁.slots + A.slots.size ≤ R.slots ∧ P a D fV fC b A z a₁ A₁.U) (fun A₁ _ v₁ B₁ => E a D fV fC A v₁ A₁.U B₁.U ∧ B₁.locs = A₁.locs ++ [⟨a, fC.slot⟩, ⟨a, fV.slot⟩] ∧ B₁.cells = A₁.cells + 1 ∧ B₁.slots = A₁.slots + A.slots.size) :=
  (law l a D fV fC b A z).pays htab hfr (by omega)
end New1
end StrChars
namespace StrChars.Road
open Jvm Sem ClassFile Op Lib Jvm.Stand Jvm.Free Jvm.Free.XT
open Jvm.Lib.Cold (StaticIs)
abbrev ST : String := "java/lang/String"
/-- every table word that New1's law asks, flat -/
abbrev words : List Jvm.Cond := [.code New1.yN New1.yB 2 none, .initialized ST, .methodLink ST 27 New4.yN, .instanceMethod New4.yN,
  .code New4.yN New4.yB 6 none, .fieldLink ST 38 ST "COMPACT_STRINGS" "Z", .laysFinal ST ST "value" "[B", .fieldLink ST 9 ST "value" "[B", .laysFinal ST ST "coder" "B", .fieldLink ST 15 ST "coder" "B",
  .methodLink ST 1 Lib.objectInit, .instanceMethod Lib.objectInit, .code Lib.objectInit ⟨#[0xb1]⟩ 1 none, .methodLink ST 177 Cmp3.yN, .static Cmp3.yN, .methodLink ST 47 CodL.yN, .static CodL.yN,
  .code Cmp3.yN Cmp3.yB 6 (some (.array .byte)), .initialized U16, .arrayClass .byte, .methodLink U16 115 Cmp5.yN, .static Cmp5.yN, .code Cmp5.yN Cmp5.yB 7 (some .int), .code CodL.yN CodL.yB 2 (some .byte)]
theorem tab_of {a : Array Value} {s : State} (h : ∀ w ∈ words, w.before a s = true) : New1.tab.before a s = true := by
  have h5 : Cmp5.tab.before a s = true := unparts (wk h (.code Cmp5.yN Cmp5.yB 7 (some .int))) (wks h (.initialized Cmp5.yN.cls :: Cmp5.site))
  have hc : CodL.tab.before a s = true := unparts (wk h (.code CodL.yN CodL.yB 2 (some .byte))) (wks h (.initialized CodL.yN.cls :: CodL.site))
  have q5 : ∀ w ∈ Cmp5.tab :: words, w.before a s = true := fun w hw => (List.mem_cons.mp hw).elim (fun e => e ▸ h5) (h w)
  have h3 : Cmp3.tab.before a s = true := unparts (wk q5 (.code Cmp3.yN Cmp3.yB 6 (some (.array .byte)))) (wks q5 (.initialized Cmp3.yN.cls :: Cmp3.site))
  have q3 : ∀ w ∈ Cmp3.tab :: CodL.tab :: words, w.before a s = true := fun w hw => (List.mem_cons.mp hw).elim (fun e => e ▸ h3) fun hw => (List.mem_cons.mp hw).elim (fun e => e ▸ hc) (h w)
  have h4 : New4.tab.before a s = true := unparts (wk q3 (.code New4.yN New4.yB 6 none)) (wks q3 (.initialized New4.yN.cls :: New4.site))
  have q4 : ∀ w ∈ New4.tab :: words, w.before a s = true := fun w hw => (List.mem_cons.mp hw).elim (fun e => e ▸ h4) (h w)
  exact unparts (wk q4 (.code New1.yN New1.yB 2 none)) (wks q4 (.initialized New1.yN.cls :: New1.site))
/-- the words ride from the start Z to the walk's own state -/
theorem moved {Z s : State} {a0 args : Array Value} (hZ : Z.Warmed39 s.vm) (hw : ∀ d ∈ words, d.before a0 Z = true) : ∀ d ∈ words, d.before args s = true := fun d hd => by
  have q := hw d hd
  have t : ∀ d ∈ words, d = .arrayClass .byte ∨ (d.onTables && d.keepsFace) = true := by decide +kernel
  rcases t d hd with rfl | t
  · exact RoadKit.mvA hZ q
  · exact RoadKit.mv hZ q t
/-- WHAT COMES BACK, over the tables of the start Z: h the heap at the call, h' behind it -/
def Q (Z : State) (x : Addr) (A : Cell) (h : Heap) (v : Option Value) (h' : Heap) (L : List Loc) : Prop := v = none ∧ (∀ y ∈ L, y.base = x) ∧ RoadKit.Keep h h' [x] ∧ h'.size = h.size + 1 ∧ RoadKit.Exa Z h' x ST ∧ RoadKit.Fld Z h' x ST "value" "[B" (.ref h.size) ∧ RoadKit.Fld Z h' x ST "coder" "B" (.int 0) ∧
  (∃ V : Cell, RoadKit.Arr Z h' h.size V .byte ∧ V.vm = .none ∧ Z.vm.findClass "[B" = some V.cls ∧ V.slots.size = A.slots.size ∧ ∀ j, j < A.slots.size → V.slots[j]? = some (.int (lo8 (cv A j)))) ∧
  ∀ (O n d : String) (w : Value), RoadKit.Fld Z h x O n d w → RoadKit.slotOf Z O n d ≠ RoadKit.slotOf Z ST "value" "[B" → RoadKit.slotOf Z O n d ≠ RoadKit.slotOf Z ST "coder" "B" → RoadKit.Fld Z h' x O n d w
/-- **new String(chars) AT A CALL, IN THE ROAD'S FORM**: for specialBack behind newO: x the fresh String, b the char[] with the cell A -/
theorem back {p : Program} {l : Launch} {e : Env} {R : Room} {s : State} {args : Array Value} {below : List Frame} {len W : Nat} {Z : State} {a0 : Array Value} {h : Heap} (hZ : Z.Warmed39 s.vm) (hw : ∀ d ∈ words, d.before a0 Z = true) {kI : Nat} (wi : (Jvm.Cond.instantiable ST kI).before a0 Z = true)
    {x b : Addr} {A : Cell} {z : Int32} {v0 c0 : Value} (E : RoadKit.Exa Z h x ST) (V : RoadKit.Fld Z h x ST "value" "[B" v0) (C : RoadKit.Fld Z h x ST "coder" "B" c0) (K : RoadKit.Arr Z h b A .char) (hty : Typed .char A) (S : RoadKit.Sta Z h ST "COMPACT_STRINGS" "Z" (.int z)) (hz : ¬ z = 0)
    (l0 : 0 < A.slots.size) (l2 : A.slots.size ≤ 536870912) (hp : ∀ i, i < A.slots.size → ¬ 255 < cv A i) (hfr : 4 ≤ R.frames) (hlo : W + 65 ≤ R.locals) :
    Back l R p e below s args New1.yN len W (fun P a => a = #[.ref x, .ref b] ∧ P.U.heap = h ∧ P.cells + 1 ≤ R.cells ∧ P.slots + A.slots.size ≤ R.slots)
      (fun P _ v B => ∃ L, Q Z x A h v B.U.heap L ∧ B.locs = P.locs ++ L ∧ B.cells = P.cells + 1 ∧ B.slots = P.slots + A.slots.size) := by
  intro m meth c P g ig mk a X hg hsize hdg hW hn hp'
  obtain ⟨rfl, rfl, r1, r2⟩ := hp'
  have al : Z.vm.Alike P.U.vm := hZ.alike.trans X.warmed.alike
  obtain ⟨D, cfV, kV, iV, fV, hD, gV, stV, knV, obV, asV, slV⟩ := id V
  obtain ⟨D', cfC, kC, iC, fC, hD', gC, stC, -, -, asC, slC⟩ := id C
  cases hD.symm.trans hD'
  obtain ⟨D2, kD, e1, e2, e3, e4, e5⟩ := id E
  cases hD.symm.trans e1
  obtain ⟨c2, k2, i1, i2, i3, -⟩ := Cond.instantiable_spec wi
  cases e2.symm.trans i1
  cases e3.symm.trans i2
  obtain ⟨kU, u1, u2⟩ := al.2.2 _ _ e3
  have hB : Blank ST x D P.U := ⟨hD, ⟨knV, fun q hq => by rw [hq] at obV; cases obV⟩, by rw [al.findClass]; exact e2, kU, u1, by rw [u2]; exact i3, by rw [u2]; exact e5 i3⟩
  have F1 : Found ST "value" "[B" fV P.U := ⟨SBG.found_only al ⟨cfV, kV, iV, gV⟩, stV⟩
  have F2 : Found ST "coder" "B" fC P.U := ⟨SBG.found_only al ⟨cfC, kC, iC, gC⟩, stC⟩
  have hA : Ch b A P.U := ⟨⟨K.1, State.isArrayOf_alike al K.2.1, K.2.2, by omega⟩, hty⟩
  have hS : StaticIs P.U ST "COMPACT_STRINGS" "Z" (.int z) := by
    obtain ⟨cfS, iS, kS, fS, st, cS, t1, t2, t3, t4, t5, t6, t7⟩ := S
    exact StaticIs.there (s := { Z with heap := P.U.heap }) ⟨cfS, iS, kS, fS, st, cS, t1, t2, t3, t4, t5, (fun q => by rw [q] at t6; cases t6), t7⟩ al rfl
  obtain ⟨v, B, X', ⟨⟨hv, E', V', q1, q2, q3, q4, q5, q6, q7, q8, q9, q10, q11⟩, hl, hc, hs⟩, st⟩ := New1.pays x D fV fC b A z (tab_of (moved hZ hw)) hfr hlo m meth c P g ig mk _ X hg hsize hdg hW hn ⟨r1, r2, rfl, hB, F1, F2, hA, hS, hz, l0, l2, hp⟩
  have al' : Z.vm.Alike B.U.vm := hZ.alike.trans X'.warmed.alike
  have hsz : E'.slots.size = D.slots.size := by
    obtain ⟨-, -, -, kB, w1, w2, w3⟩ := q1
    obtain ⟨kB', y1, y2⟩ := al'.2.2 _ _ e3
    rw [q2.2.1] at w1
    cases w1.symm.trans y1
    rw [w3, e5 i3, y2]
  refine ⟨v, B, X', ⟨_, ⟨hv, ?_, ⟨by omega, fun y cy hy hn' => q10 y cy (by simpa using hn') hy, fun y cy hy => ?_⟩, q11, ⟨E', _, q1.1, by rw [q2.2.1]; exact e2, by rw [q2.2.1]; exact e3, by rw [q2.1]; exact obV, fun _ => by rw [hsz]; exact e5 i3⟩,
    ⟨E', cfV, kV, iV, fV, q1.1, gV, stV, by rw [q2.1]; exact knV, by rw [q2.1]; exact obV, by rw [q2.2.1]; exact asV, q3⟩, ⟨E', cfC, kC, iC, fC, q1.1, gC, stC, by rw [q2.1]; exact knV, by rw [q2.1]; exact obV, by rw [q2.2.1]; exact asC, q4⟩,
    ⟨V', ⟨q5.1, State.isArrayOf_alike al'.symm q5.2.1, q5.2.2.1⟩, q6, by rw [← al'.findClass]; exact q7, q8, fun j hj => by have := q9 j hj; rwa [Nat.zero_add] at this⟩, fun O n d w F n1 n2 => ?_⟩, hl, hc, hs⟩, st⟩
  · intro y hy
    simp only [List.mem_cons, List.not_mem_nil, or_false] at hy
    rcases hy with rfl | rfl <;> rfl
  · by_cases q : y = x
    · subst q
      cases hD.symm.trans hy
      exact ⟨E', q1.1, q2.2.1, q2.1, hsz⟩
    · exact ⟨cy, q10 y cy q hy, rfl, rfl, rfl⟩
  · obtain ⟨D3, cf, k, i, f, g1, g2, g3, g4, g5, g6, g7⟩ := F
    cases hD.symm.trans g1
    simp only [RoadKit.slotOf, g2, gV, gC, Option.map_some, Option.getD_some] at n1 n2
    exact ⟨E', cf, k, i, f, q1.1, g2, g3, by rw [q2.1]; exact g4, by rw [q2.1]; exact g5, by rw [q2.2.1]; exact g6, by rw [q2.2.2 f.slot (by simp [n1, n2])]; exact g7⟩
end StrChars.Road
namespace StrChars.Road
open Jvm Sem ClassFile Op Lib Jvm.Stand Jvm.Free Jvm.Free.XT
/-- WHAT COMES BACK, the byte[] as a list of values -/
def QA (Z : State) (x : Addr) (zn : Int32) (cs : List Int32) (h : Heap) (v : Option Value) (h' : Heap) (L : List Loc) : Prop := v = none ∧ (∀ y ∈ L, y.base = x) ∧ RoadKit.Keep h h' [x] ∧ h'.size = h.size + 1 ∧ RoadKit.Exa Z h' x ST ∧ RoadKit.Fld Z h' x ST "value" "[B" (.ref h.size) ∧ RoadKit.Fld Z h' x ST "coder" "B" (.int 0) ∧
  (∃ kb, Z.vm.findClass "[B" = some kb ∧ RoadKit.Arv Z h' h.size kb .byte zn (cs.map fun c => .int (lo8 c)) (.int 0)) ∧
  ∀ (O n d : String) (w : Value), RoadKit.Fld Z h x O n d w → RoadKit.slotOf Z O n d ≠ RoadKit.slotOf Z ST "value" "[B" → RoadKit.slotOf Z O n d ≠ RoadKit.slotOf Z ST "coder" "B" → RoadKit.Fld Z h' x O n d w
/-- **new String(chars) AT A CALL, THE ARRAYS AS LISTS**: the char[] at b holds cs, not empty, no char above 255 -/
theorem backArv {p : Program} {l : Launch} {e : Env} {R : Room} {s : State} {args : Array Value} {below : List Frame} {len W : Nat} {Z : State} {a0 : Array Value} {h : Heap} (hZ : Z.Warmed39 s.vm) (hw : ∀ d ∈ words, d.before a0 Z = true) {kI : Nat} (wi : (Jvm.Cond.instantiable ST kI).before a0 Z = true)
    {x b : Addr} {k : ClassId} {zn z : Int32} {cs : List Int32} {dv v0 c0 : Value} (E : RoadKit.Exa Z h x ST) (V : RoadKit.Fld Z h x ST "value" "[B" v0) (C : RoadKit.Fld Z h x ST "coder" "B" c0) (K : RoadKit.Arv Z h b k .char zn (cs.map Value.int) dv) (S : RoadKit.Sta Z h ST "COMPACT_STRINGS" "Z" (.int z)) (hz : ¬ z = 0)
    (hlen : zn.toNatClampNeg = cs.length) (h0 : 0 < cs.length) (hbig : cs.length ≤ 536870912) (hall : ∀ c ∈ cs, ¬ 255 < c) (hfr : 4 ≤ R.frames) (hlo : W + 65 ≤ R.locals) :
    Back l R p e below s args New1.yN len W (fun P a => a = #[.ref x, .ref b] ∧ P.U.heap = h ∧ P.cells + 1 ≤ R.cells ∧ P.slots + cs.length ≤ R.slots)
      (fun P _ v B => ∃ L, QA Z x zn cs h v B.U.heap L ∧ B.locs = P.locs ++ L ∧ B.cells = P.cells + 1 ∧ B.slots = P.slots + cs.length) := by
  obtain ⟨A, K1, K2, K3, K4, K5, K6⟩ := K
  have e : A.slots.size = cs.length := K3.trans hlen
  have hat : ∀ (i : Nat) (hi : i < cs.length), A.slots[i]? = some (.int cs[i]) := fun i hi => by rw [K5 i (by omega)]; simp [List.getD_eq_getElem?_getD, hi]
  have hcv : ∀ (i : Nat) (hi : i < cs.length), cv A i = cs[i] := fun i hi => by unfold cv; rw [hat i hi]
  have hty : Typed .char A := fun i v hv => by
    have hi : i < A.slots.size := (Array.getElem?_eq_some_iff.mp hv).1
    have q := K5 i hi
    rw [hv] at q
    rw [Option.some.inj q]
    exact K6 i hi
  refine Back.mono (back hZ hw wi E V C K1 hty S hz (by omega) (by omega) (fun i hi => by rw [hcv i (by omega)]; exact hall _ (List.getElem_mem _)) hfr hlo) (fun P a hp => ⟨hp.1, hp.2.1, hp.2.2.1, by rw [e]; exact hp.2.2.2⟩) (fun P a v B hp hq => ?_)
  obtain ⟨L, ⟨q1, q2, q3, q4, q5, q6, q7, ⟨V', v1, v2, v3, v4, v5⟩, q9⟩, hl, hc, hs⟩ := hq
  refine ⟨L, ⟨q1, q2, q3, q4, q5, q6, q7, ⟨V'.cls, v3, V', v1, rfl, by rw [v4, e, hlen], K4, fun i hi => ?_, fun i hi => ?_⟩, q9⟩, hl, hc, by rw [hs, e]⟩
  · have hi' : i < cs.length := by omega
    rw [v5 i (by omega), hcv i hi']; simp [List.getD_eq_getElem?_getD, hi']
  · have hi' : i < cs.length := by omega
    simp only [List.getD_eq_getElem?_getD, List.getElem?_map, List.getElem?_eq_getElem hi', Option.map_some, Option.getD_some]
    exact fits_lo8 _
end StrChars.Road
namespace StrChars.Road
open Jvm Sem ClassFile Op Lib Jvm.Stand Jvm.Free Jvm.Free.XT
/-- WHAT COMES BACK, in the writer's own shape -/
def QV (Z : State) (x : Addr) (N : Int32) (bs : List Int32) (h : Heap) (n0 : Nat) (v : Option Value) (h' : Heap) (L : List Loc) : Prop := v = none ∧ RoadKit.Fr n0 L ∧ RoadKit.Keep h h' [x] ∧ RoadKit.Exa Z h' x ST ∧ RoadKit.Fld Z h' x ST "coder" "B" (.int 0) ∧
  ∃ (t : Addr) (kb : ClassId), n0 ≤ t ∧ h.size ≤ t ∧ ¬ t = x ∧ RoadKit.Fld Z h' x ST "value" "[B" (.ref t) ∧ RoadKit.Arv Z h' t kb .byte N (bs.map Value.int) (.int 0)
/-- **new String(chars) AT A CALL, FOR THE WRITER**: a char[] of n known ints, each 0 to 255 -/
theorem backV {p : Program} {l : Launch} {e : Env} {R : Room} {s : State} {args : Array Value} {below : List Frame} {len W : Nat} {Z : State} {a0 : Array Value} {h : Heap} (hZ : Z.Warmed39 s.vm) (hw : ∀ d ∈ words, d.before a0 Z = true) {kI : Nat} (wi : (Jvm.Cond.instantiable ST kI).before a0 Z = true)
    {x b : Addr} {kC : ClassId} {cs bs : List Int32} {d v0 c0 : Value} {z N : Int32} {n n0 : Nat} (hx0 : n0 ≤ x) (hh0 : n0 ≤ h.size) (E : RoadKit.Exa Z h x ST) (V : RoadKit.Fld Z h x ST "value" "[B" v0) (C : RoadKit.Fld Z h x ST "coder" "B" c0) (K : RoadKit.Arv Z h b kC .char N (cs.map Value.int) d) (S : RoadKit.Sta Z h ST "COMPACT_STRINGS" "Z" (.int z)) (hz : ¬ z = 0)
    (hn : cs.length = n) (hN : N = Int32.ofNat n) (l0 : 0 < n) (l2 : n ≤ 4000) (hp : ∀ c ∈ cs, ¬ c < 0 ∧ ¬ (255 : Int32) < c) (hb : bs = cs.map (fun c => c.toInt8.toInt32)) (hfr : 4 ≤ R.frames) (hlo : W + 65 ≤ R.locals) :
    Back l R p e below s args (⟨"java/lang/String", "<init>", "([C)V"⟩ : MethodName) len W (fun P a => a = #[.ref x, .ref b] ∧ P.U.heap = h ∧ P.cells + 1 ≤ R.cells ∧ P.slots + n ≤ R.slots)
      (fun P _ v B => ∃ L, QV Z x N bs h n0 v B.U.heap L ∧ B.locs = P.locs ++ L ∧ B.cells = P.cells + 1 ∧ B.slots = P.slots + n) := by
  subst hn hN hb
  refine Back.mono (backArv hZ hw wi E V C K S hz (n32 (by omega)) l0 (by omega) (fun c hc => (hp c hc).2) hfr hlo) (fun P a hp => hp) (fun P a v B hp hq => ?_)
  obtain ⟨L, ⟨q1, q2, q3, q4, q5, q6, q7, ⟨kb, v1, v2⟩, q9⟩, hl, hc, hs⟩ := hq
  exact ⟨L, ⟨q1, fun y hy => by rw [q2 y hy]; exact hx0, q3, q5, q7, h.size, kb, hh0, Nat.le_refl _, Nat.ne_of_gt E.lt, q6, by rw [List.map_map]; exact v2⟩, hl, hc, hs⟩
end StrChars.Road
end Jvm.Pilot.@@N@@
namespace Jvm.RoadKit
open Sem ClassFile Op Lib Jvm.Stand Jvm.Free Jvm.LawKit
section OwnNew
variable {p : Program} {l : Launch} {e : Env} {R : Room} {s : State} {m : MethodId} {args : Array Value} {below : List Frame} {meth : Method} {c : Code} {T : State} {locs : List Loc} {cells slots : Nat} {h : Heap}
/-- from S the run comes to an end of which Q holds -/
def OwnGo (p : Program) (e : Env) (below : List Frame) (S : State) (Q : Outcome → State → Prop) : Prop :=
  ∃ s₂ o, Steps p.tables e below S s₂ ∧ s₂.status = .running ∧ Ended s₂ below o ∧ Q o s₂
theorem own_go {S : State} {Q : Outcome → State → Prop} (k : OwnGo p e below S Q) : ∃ s₂ o, Steps p.tables e below S s₂ ∧ s₂.status = .running ∧ Ended s₂ below o ∧ Q o s₂ := k
theorem own_back {S S' : State} {Q : Outcome → State → Prop} (h : ∀ t, Steps p.tables e below S' t → Steps p.tables e below S t) (k : OwnGo p e below S' Q) : OwnGo p e below S Q := by
  obtain ⟨s2, o, h1, h2⟩ := k
  exact ⟨s2, o, h _ h1, h2⟩
theorem own_seq {S S' : State} {Q : Outcome → State → Prop} (h : Steps p.tables e below S S') (k : OwnGo p e below S' Q) : OwnGo p e below S Q := own_back (fun _ ht => h.trans ht) k
abbrev OwnEnd (s : State) (Qf : Option Value → Heap → List Loc → Prop) (C S : Nat) : Outcome → State → Prop := fun o U' => ∃ v L, o = .returned v ∧ Qf v U'.heap L ∧ FrameEnd s o U' L C S
theorem own_end (X : Stand p l e R s m args below meth c T locs cells slots) (hlocks : meth.locks = false) {v : Option Value} (hv : meth.sig.returnType = none → v = none) {S : State} {Qf : Option Value → Heap → List Loc → Prop} {C Sl : Nat} (eT : T.heap = h) (hc : cells ≤ C) (hs : slots ≤ Sl) (hq : Qf v h locs)
    (step : ∀ fs : List Frame, (∀ (f : JFrame) (acts : List Action), f.method = m → f.locked = none → f.entered = [] → (doReturn e (T.setTop f) acts v).1 = T.setFrames fs) → Steps p.tables e below S (T.setFrames fs)) : OwnGo p e below S (OwnEnd s Qf C Sl) := by
  obtain ⟨fs, hr, hrun, hended, hW, hsame⟩ := X.leave (v := v) hv hlocks
  refine ⟨_, _, step fs hr, hrun, hended, v, locs, rfl, ?_, ⟨_, rfl⟩, hW, hsame.mono hc hs⟩
  show Qf v T.heap locs
  rw [eT]; exact hq
theorem own_hat {T : State} {h : Heap} {a : Addr} {c : Cell} (e : T.heap = h) (q : h[a]? = some c) : T.heap[a]? = some c := by rw [e]; exact q
theorem own_hle {T : State} {h : Heap} {k : Nat} (e : T.heap = h) (q : k ≤ h.size) : k ≤ T.heap.size := by rw [e]; exact q
theorem own_backN {Z : State} {a0 : Array Value} {y : MethodName} {bytes : ByteArray} {maxL : Nat} {ret : Option FieldType} {rm : Room} {len W : Nat} {as' : Array Value} {Q : Option Value → Heap → List Loc → Prop}
    (hM : MetFree l y (head1 [Cond.code y bytes maxL ret] rm) (fun a U => a = as' ∧ Z.Warmed39 U.vm ∧ U.heap = h) (fun _ _ _ _ _ => True) (fun _ U o U' => OwnEnd U Q rm.cells rm.slots o U'))
    (hZ : Z.Warmed39 s.vm) (wc : (Cond.code y bytes maxL ret).before a0 Z = true) (wz : (Cond.initialized y.cls).before a0 Z = true) (hf : rm.frames + 1 ≤ R.frames) (hl : W + (maxL + 11) + rm.locals ≤ R.locals) :
    Back l R p e below s args y len W (fun A a => a = as' ∧ A.U.heap = h ∧ A.cells + rm.cells ≤ R.cells ∧ A.slots + rm.slots ≤ R.slots)
      (fun A _ v B => ∃ L, Q v B.U.heap L ∧ B.locs = A.locs ++ L ∧ B.cells = A.cells + rm.cells ∧ B.slots = A.slots + rm.slots) := backOf (Q := Q) hM hZ wc wz hf hl
theorem own_retN (X : Stand p l e R s m args below meth c T locs cells slots) (hx : p.tables.exec = Jvm.exec) (hlocks : meth.locks = false) {pc : Nat} {Ls : Array Slot} {z : Int32} {t : FieldType} {rest : List Value} (hret : meth.sig.returnType = some t) (ht : t = .boolean ∨ t = .byte ∨ t = .char ∨ t = .short) (hn : nar t z = z)
    (hd : decode c.code pc = .ok (.ireturn, 1)) {Qf : Option Value → Heap → List Loc → Prop} {C Sl : Nat} (eT : T.heap = h) (hc : cells ≤ C) (hs : slots ≤ Sl) (hq : Qf (some (.int z)) h locs) : OwnGo p e below (T.setTop (mkF m pc Ls (.int z :: rest))) (OwnEnd s Qf C Sl) :=
  own_end X hlocks (fun h => by rw [hret] at h; cases h) eT hc hs hq fun fs hr => retN X hx hret ht hd (by rw [hn]; exact hr)
theorem own_retI (X : Stand p l e R s m args below meth c T locs cells slots) (hx : p.tables.exec = Jvm.exec) (hlocks : meth.locks = false) {pc : Nat} {Ls : Array Slot} {z : Int32} {rest : List Value} (hret : meth.sig.returnType = some .int)
    (hd : decode c.code pc = .ok (.ireturn, 1)) {Qf : Option Value → Heap → List Loc → Prop} {C Sl : Nat} (eT : T.heap = h) (hc : cells ≤ C) (hs : slots ≤ Sl) (hq : Qf (some (.int z)) h locs) : OwnGo p e below (T.setTop (mkF m pc Ls (.int z :: rest))) (OwnEnd s Qf C Sl) :=
  own_end X hlocks (fun h => by rw [hret] at h; cases h) eT hc hs hq fun fs hr => retOut X hx hret rfl (Or.inl ⟨rfl, Or.inl rfl, z, rfl⟩) hd hr
theorem own_retJ (X : Stand p l e R s m args below meth c T locs cells slots) (hx : p.tables.exec = Jvm.exec) (hlocks : meth.locks = false) {pc : Nat} {Ls : Array Slot} {z : Int64} {rest : List Value} (hret : meth.sig.returnType = some .long)
    (hd : decode c.code pc = .ok (.lreturn, 1)) {Qf : Option Value → Heap → List Loc → Prop} {C Sl : Nat} (eT : T.heap = h) (hc : cells ≤ C) (hs : slots ≤ Sl) (hq : Qf (some (.long z)) h locs) : OwnGo p e below (T.setTop (mkF m pc Ls (.long z :: rest))) (OwnEnd s Qf C Sl) :=
  own_end X hlocks (fun h => by rw [hret] at h; cases h) eT hc hs hq fun fs hr => retOut X hx hret rfl (Or.inr (Or.inl ⟨rfl, rfl, z, rfl⟩)) hd hr
theorem own_narA {t : FieldType} {w : Value} (h : w.isRef = true) : narrow t w = w := by
  rcases ref_cases h with rfl | ⟨a, rfl⟩ <;> cases t <;> rfl
theorem own_retA (X : Stand p l e R s m args below meth c T locs cells slots) (hx : p.tables.exec = Jvm.exec) (hlocks : meth.locks = false) {pc : Nat} {Ls : Array Slot} {w : Value} {t : FieldType} {rest : List Value} (hret : meth.sig.returnType = some t) (ht : t.isReference = true) (hw : w.isRef = true)
    (hd : decode c.code pc = .ok (.areturn, 1)) {Qf : Option Value → Heap → List Loc → Prop} {C Sl : Nat} (eT : T.heap = h) (hc : cells ≤ C) (hs : slots ≤ Sl) (hq : Qf (some w) h locs) : OwnGo p e below (T.setTop (mkF m pc Ls (w :: rest))) (OwnEnd s Qf C Sl) :=
  own_end X hlocks (fun h => by rw [hret] at h; cases h) eT hc hs hq fun fs hr => retOut X hx hret (own_narA hw) (Or.inr (Or.inr (Or.inr (Or.inr ⟨rfl, ht, hw⟩)))) hd hr
theorem own_retV (X : Stand p l e R s m args below meth c T locs cells slots) (hx : p.tables.exec = Jvm.exec) (hlocks : meth.locks = false) {pc : Nat} {Ls : Array Slot} (hret : meth.sig.returnType = none)
    (hd : decode c.code pc = .ok (.return_, 1)) {Qf : Option Value → Heap → List Loc → Prop} {C Sl : Nat} (eT : T.heap = h) (hc : cells ≤ C) (hs : slots ≤ Sl) (hq : Qf none h locs) : OwnGo p e below (T.setTop (mkF m pc Ls [])) (OwnEnd s Qf C Sl) :=
  own_end X hlocks (fun _ => rfl) eT hc hs hq fun fs hr => X.returnOut hx hret hd hr
end OwnNew
section OwnTerms
variable {args : Array Value} {first s : State} {o : Option Outcome} {idx : List Nat} {t u : Term}
theorem own_eqint {k : Int32} (h : (Cond.eq t (.int k)).value args first o s idx = some true) : t.eval args first o idx s = some (.int k) := by
  cases ha : t.eval args first o idx s with
  | none => simp [Cond.value, ha] at h
  | some x =>
    have hb : (Term.int k).eval args first o idx s = some (.int k) := Term.int_eval k
    cases x <;> simp [Cond.value, ha, hb, Value.isRef] at h ⊢
    exact h
theorem own_eqref {w : Addr} (hu : u.eval args first o idx s = some (.ref w)) (h : (Cond.eq t u).value args first o s idx = some true) : t.eval args first o idx s = some (.ref w) := by
  cases ha : t.eval args first o idx s with
  | none => simp [Cond.value, ha] at h
  | some x =>
    cases x <;> simp [Cond.value, ha, hu, Value.isRef] at h ⊢
    exact h
end OwnTerms
section OwnArr
variable {s : State} {args : Array Value} {t u : Term} {a : Addr} {c : Cell} {ty : FieldType}
theorem own_nat32 {n : Nat} (h : n < 2 ^ 31) : n.toInt32.toNatClampNeg = n := by
  have e : n.toInt32.toInt = n := Int32.toInt_ofNat_of_lt h
  have := nat_of (j := n.toInt32) (by rw [Int32.lt_iff_toInt_lt, e]; have z : (0 : Int32).toInt = 0 := rfl; omega)
  omega
theorem own_len {n : Int32} (A : Arr s s.heap a c ty) (et : t.eval args s none [] s = some (.ref a)) (h : (Cond.eq (.length t) (.int n)).value args s none s [] = some true) {k : Nat} (hk : n.toNatClampNeg = k := by rfl) : c.slots.size = k := by
  have e := own_eqint h
  have ha : s.arrayAt? a = some c := IntBox.arrayAt_of A.1 A.2.1 A.2.2
  by_cases hl : c.slots.size < 2 ^ 31
  · rw [len_f et ha hl] at e
    have e2 : c.slots.size.toInt32 = n := by injection e with e; injection e
    rw [← hk, ← e2]
    exact (own_nat32 hl).symm
  · simp [Term.eval, et, ha, hl] at e
theorem own_elem {j k : Int32} (A : Arr s s.heap a c ty) (et : t.eval args s none [] s = some (.ref a)) (h : (Cond.eq (.elem t (.int j)) (.int k)).value args s none s [] = some true) (hj : ¬ j < 0) : c.slots[j.toNatClampNeg]? = some (.int k) := by
  have e := own_eqint h
  have ha : s.arrayAt? a = some c := IntBox.arrayAt_of A.1 A.2.1 A.2.2
  rw [elem_f et (Term.int_eval j) ha hj] at e
  exact e
theorem own_elemR {j : Int32} {w : Addr} (A : Arr s s.heap a c ty) (et : t.eval args s none [] s = some (.ref a)) (hu : u.eval args s none [] s = some (.ref w)) (h : (Cond.eq (.elem t (.int j)) u).value args s none s [] = some true) (hj : ¬ j < 0) : c.slots[j.toNatClampNeg]? = some (.ref w) := by
  have e := own_eqref hu h
  have ha : s.arrayAt? a = some c := IntBox.arrayAt_of A.1 A.2.1 A.2.2
  rw [elem_f et (Term.int_eval j) ha hj] at e
  exact e
end OwnArr
section OwnMore
variable {Z : State} {h h' : Heap}
theorem own_arr_ne {a b : Addr} {c d : Cell} {t u : FieldType} (A : Arr Z h a c t) (B : Arr Z h b d u) (q : t ≠ u) : a ≠ b := fun e => by
  subst e
  cases A.1.symm.trans B.1
  obtain ⟨-, k1, h1, cp1, h2⟩ := A.2.1
  obtain ⟨-, k2, h3, cp2, h4⟩ := B.2.1
  cases h1.symm.trans h3
  rw [h2] at h4
  injection h4 with _ h5
  exact q h5
theorem own_arv_ne {a b : Addr} {k k' : ClassId} {t u : FieldType} {z z' : Int32} {vs vs' : List Value} {d d' : Value} (A : Arv Z h a k t z vs d) (B : Arv Z h b k' u z' vs' d') (q : t ≠ u) : a ≠ b := by
  obtain ⟨c, A, -⟩ := A
  obtain ⟨c', B, -⟩ := B
  exact own_arr_ne A B q
theorem own_ext (K : Keep h h' []) : Ext h h' := ⟨K.1, fun x c q => K.2.1 x c q nin0⟩
theorem own_fitA {t : FieldType} {w : Value} (hw : w.isRef = true) (ht : t.isReference = true := by rfl) : fits t w = true := by
  rcases ref_cases hw with rfl | ⟨a, rfl⟩ <;> cases t <;> first | rfl | cases ht
end OwnMore
section OwnRem
variable {p : Program} {l : Launch} {e : Env} {R : Room} {s : State} {m : MethodId} {args : Array Value} {below : List Frame} {meth : Method} {c : Code} {T : State} {locs : List Loc} {cells slots : Nat}
theorem own_lrem {g : JFrame} {target : State} (X : Stand p l e R s m args below meth c T locs cells slots) (hx : p.tables.exec = Jvm.exec) (hg : g.method = m) {x y : Int64} {rest : List Value} (hd : decode c.code g.pc = .ok (.lrem, 1)) (hs : g.stack = .long y :: .long x :: rest) (hy : y ≠ 0)
    (hr : Steps p.tables e below (T.setTop { g with pc := g.pc + 1, stack := .long (x % y) :: rest }) target) : Steps p.tables e below (T.setTop g) target :=
  XS.lrem X.here hx hg hd hs hy (by rw [lrem_mod]; exact hr)
end OwnRem
end Jvm.RoadKit
namespace Jvm.RoadKit
open Sem ClassFile Op Lib Bundle Jvm.Stand Jvm.Free Jvm.LawKit Jvm.Free.SB Jvm.Free.SBG
section OwnWide
variable {p : Program} {l : Launch} {e : Env} {R : Room} {s : State} {m : MethodId} {args : Array Value} {below : List Frame} {meth : Method} {c : Code} {T : State} {locs : List Loc} {cells slots : Nat} {h h0 : Heap} {Z : State} {a0 : Array Value} {EL : List (String × Nat)} {vm0 : Vm} {k0 : Nat}
abbrev OwnEndW (Z : State) (EL : List (String × Nat)) (s : State) (Qf : Option Value → Heap → List Loc → Prop) (C S : Nat) : Outcome → State → Prop := fun o U' => ∃ v L, o = .returned v ∧ Qf v U'.heap L ∧ CHr Z EL s.vm s.heap U'.vm U'.heap ∧ ReturnedEndW s o U' L C S
theorem own_endW (X : Stand p l e R (s.setVm vm0) m args below meth c T locs cells slots) (hlocks : meth.locks = false) {v : Option Value} (hv : meth.sig.returnType = none → v = none) {S : State} {Qf : Option Value → Heap → List Loc → Prop} {C Sl : Nat}
    (hS : s.Since vm0 k0) (hk : k0 ≤ h.size) (hZ : Z.Warmed39 (s.setVm vm0).vm) (hEL : EW Z a0 EL) (CR : CHr Z EL s.vm s.heap vm0 h) (eT : T.heap = h) (hc : cells ≤ C) (hs : slots ≤ Sl) (hq : Qf v h locs)
    (step : ∀ fs : List Frame, (∀ (f : JFrame) (acts : List Action), f.method = m → f.locked = none → f.entered = [] → (doReturn e (T.setTop f) acts v).1 = T.setFrames fs) → Steps p.tables e below S (T.setFrames fs)) : OwnGo p e below S (OwnEndW Z EL s Qf C Sl) := by
  obtain ⟨fs, hr, hrun, hended, hw1, hw2, hw3, hw4⟩ := X.leaveW (v := v) hS (by rw [eT]; exact hk) hv hlocks
  refine ⟨_, _, step fs hr, hrun, hended, v, locs, rfl, ?_, ?_, hw1, hw2, hw3, hw4.mono hc hs⟩
  · show Qf v T.heap locs
    rw [eT]; exact hq
  · show CHr Z EL s.vm s.heap T.vm T.heap
    rw [eT]; exact CR.trans (CHv.at X hZ hEL CR.1)
theorem own_retNW (X : Stand p l e R (s.setVm vm0) m args below meth c T locs cells slots) (hx : p.tables.exec = Jvm.exec) (hlocks : meth.locks = false) {pc : Nat} {Ls : Array Slot} {z : Int32} {t : FieldType} {rest : List Value} (hret : meth.sig.returnType = some t) (ht : t = .boolean ∨ t = .byte ∨ t = .char ∨ t = .short) (hn : nar t z = z)
    (hS : s.Since vm0 k0) (hk : k0 ≤ h.size) (hZ : Z.Warmed39 (s.setVm vm0).vm) (hEL : EW Z a0 EL) (CR : CHr Z EL s.vm s.heap vm0 h)
    (hd : decode c.code pc = .ok (.ireturn, 1)) {Qf : Option Value → Heap → List Loc → Prop} {C Sl : Nat} (eT : T.heap = h) (hc : cells ≤ C) (hs : slots ≤ Sl) (hq : Qf (some (.int z)) h locs) : OwnGo p e below (T.setTop (mkF m pc Ls (.int z :: rest))) (OwnEndW Z EL s Qf C Sl) :=
  own_endW X hlocks (fun h => by rw [hret] at h; cases h) hS hk hZ hEL CR eT hc hs hq fun fs hr => retN X hx hret ht hd (by rw [hn]; exact hr)
theorem own_retIW (X : Stand p l e R (s.setVm vm0) m args below meth c T locs cells slots) (hx : p.tables.exec = Jvm.exec) (hlocks : meth.locks = false) {pc : Nat} {Ls : Array Slot} {z : Int32} {rest : List Value} (hret : meth.sig.returnType = some .int)
    (hS : s.Since vm0 k0) (hk : k0 ≤ h.size) (hZ : Z.Warmed39 (s.setVm vm0).vm) (hEL : EW Z a0 EL) (CR : CHr Z EL s.vm s.heap vm0 h)
    (hd : decode c.code pc = .ok (.ireturn, 1)) {Qf : Option Value → Heap → List Loc → Prop} {C Sl : Nat} (eT : T.heap = h) (hc : cells ≤ C) (hs : slots ≤ Sl) (hq : Qf (some (.int z)) h locs) : OwnGo p e below (T.setTop (mkF m pc Ls (.int z :: rest))) (OwnEndW Z EL s Qf C Sl) :=
  own_endW X hlocks (fun h => by rw [hret] at h; cases h) hS hk hZ hEL CR eT hc hs hq fun fs hr => retOut X hx hret rfl (Or.inl ⟨rfl, Or.inl rfl, z, rfl⟩) hd hr
theorem own_retJW (X : Stand p l e R (s.setVm vm0) m args below meth c T locs cells slots) (hx : p.tables.exec = Jvm.exec) (hlocks : meth.locks = false) {pc : Nat} {Ls : Array Slot} {z : Int64} {rest : List Value} (hret : meth.sig.returnType = some .long)
    (hS : s.Since vm0 k0) (hk : k0 ≤ h.size) (hZ : Z.Warmed39 (s.setVm vm0).vm) (hEL : EW Z a0 EL) (CR : CHr Z EL s.vm s.heap vm0 h)
    (hd : decode c.code pc = .ok (.lreturn, 1)) {Qf : Option Value → Heap → List Loc → Prop} {C Sl : Nat} (eT : T.heap = h) (hc : cells ≤ C) (hs : slots ≤ Sl) (hq : Qf (some (.long z)) h locs) : OwnGo p e below (T.setTop (mkF m pc Ls (.long z :: rest))) (OwnEndW Z EL s Qf C Sl) :=
  own_endW X hlocks (fun h => by rw [hret] at h; cases h) hS hk hZ hEL CR eT hc hs hq fun fs hr => retOut X hx hret rfl (Or.inr (Or.inl ⟨rfl, rfl, z, rfl⟩)) hd hr
theorem own_retAW (X : Stand p l e R (s.setVm vm0) m args below meth c T locs cells slots) (hx : p.tables.exec = Jvm.exec) (hlocks : meth.locks = false) {pc : Nat} {Ls : Array Slot} {w : Value} {t : FieldType} {rest : List Value} (hret : meth.sig.returnType = some t) (ht : t.isReference = true) (hw : w.isRef = true)
    (hS : s.Since vm0 k0) (hk : k0 ≤ h.size) (hZ : Z.Warmed39 (s.setVm vm0).vm) (hEL : EW Z a0 EL) (CR : CHr Z EL s.vm s.heap vm0 h)
    (hd : decode c.code pc = .ok (.areturn, 1)) {Qf : Option Value → Heap → List Loc → Prop} {C Sl : Nat} (eT : T.heap = h) (hc : cells ≤ C) (hs : slots ≤ Sl) (hq : Qf (some w) h locs) : OwnGo p e below (T.setTop (mkF m pc Ls (w :: rest))) (OwnEndW Z EL s Qf C Sl) :=
  own_endW X hlocks (fun h => by rw [hret] at h; cases h) hS hk hZ hEL CR eT hc hs hq fun fs hr => retOut X hx hret (own_narA hw) (Or.inr (Or.inr (Or.inr (Or.inr ⟨rfl, ht, hw⟩)))) hd hr
theorem own_retVW (X : Stand p l e R (s.setVm vm0) m args below meth c T locs cells slots) (hx : p.tables.exec = Jvm.exec) (hlocks : meth.locks = false) {pc : Nat} {Ls : Array Slot} (hret : meth.sig.returnType = none)
    (hS : s.Since vm0 k0) (hk : k0 ≤ h.size) (hZ : Z.Warmed39 (s.setVm vm0).vm) (hEL : EW Z a0 EL) (CR : CHr Z EL s.vm s.heap vm0 h)
    (hd : decode c.code pc = .ok (.return_, 1)) {Qf : Option Value → Heap → List Loc → Prop} {C Sl : Nat} (eT : T.heap = h) (hc : cells ≤ C) (hs : slots ≤ Sl) (hq : Qf none h locs) : OwnGo p e below (T.setTop (mkF m pc Ls [])) (OwnEndW Z EL s Qf C Sl) :=
  own_endW X hlocks (fun _ => rfl) hS hk hZ hEL CR eT hc hs hq fun fs hr => X.returnOut hx hret hd hr
/-- a callee that may intern and keeps the invariant; the cells SL are no booked Strings' -/
theorem own_backH {y : MethodName} {bytes : ByteArray} {maxL : Nat} {ret : Option FieldType} {rm : Room} {len W : Nat} {as' : Array Value} {Q : Option Value → Heap → List Loc → Prop} {SL : List Addr}
    (hM : MetFree l y (head1 [Cond.code y bytes maxL ret] rm) (fun a U => a = as' ∧ Z.Warmed39 U.vm ∧ U.heap = h ∧ CHv Z EL U.vm h ∧ ∀ x ∈ SL, Safe Z EL U.vm h x) (fun _ _ _ _ _ => True) (fun _ U o U' => OwnEndW Z EL U Q rm.cells rm.slots o U'))
    (hZ : Z.Warmed39 (s.setVm vm0).vm) (wc : (Cond.code y bytes maxL ret).before a0 Z = true) (wz : (Cond.initialized y.cls).before a0 Z = true) (hf : rm.frames + 1 ≤ R.frames) (hl : W + (maxL + 11) + rm.locals ≤ R.locals) (hEL : EW Z a0 EL) (H : CHv Z EL vm0 h) (hsf : ∀ x ∈ SL, Safe Z EL vm0 h x) (hlt : ∀ x ∈ SL, x < h.size) :
    BackS l R p e below (s.setVm vm0) args y len W (fun A a => a = as' ∧ A.U.heap = h ∧ A.cells + rm.cells ≤ R.cells ∧ A.slots + rm.slots ≤ R.slots)
      (fun A _ v B => ∃ L, Q v B.U.heap L ∧ B.locs = A.locs ++ L ∧ B.cells = A.cells + rm.cells ∧ B.slots = A.slots + rm.slots ∧ CHr Z EL vm0 h B.U.vm B.U.heap) :=
  have hZ' : Z.Warmed39 vm0 := hZ
  BackS.of_freeW (bytes := bytes) (maxL := maxL) (ret := ret) (E := fun _ first o t L k n => k = rm.cells ∧ n = rm.slots ∧ (∃ v, o = .returned v ∧ Q v t.heap L) ∧ CHr Z EL first.vm first.heap t.vm t.heap) hM hf hl
    (fun m meth c A a Y hp => have hU : Z.Warmed39 A.U.vm := wtrans (s := s.setVm vm0) hZ' Y.warmed
      ⟨by show (Cond.and _ .tt).before a A.U = true; rw [Cond.before_and, mv hU wc]; rfl, mv hU wc, mv hU wz, hp.2.2.1, hp.2.2.2⟩)
    (fun m meth c A a g mk Y hp => ⟨hp.1, wtrans (s := s.setVm vm0) hZ' Y.warmed, hp.2.1, (CHv.at Y hZ' hEL H).1, fun x hx => (CHv.at Y hZ' hEL H).safe (hlt x hx) (hsf x hx)⟩) (fun _ _ _ _ _ _ _ _ _ => trivial)
    (fun _ _ _ _ ⟨v, L, h1, h2, h3, h4⟩ => ⟨L, _, _, h4, rfl, rfl, ⟨v, h1, h2⟩, h3⟩)
    (fun m meth c A a g mk v t L k n Y hp _ _ ⟨e1, e2, ⟨v', e3, e4⟩, e5⟩ => by
      cases e3; subst e1 e2
      refine ⟨L, e4, rfl, rfl, rfl, (CHv.at Y hZ' hEL H).trans ?_⟩
      rw [← hp.2.1]; exact e5)
/-- where a wide walk stands: all that its steps ask, bundled -/
def OwnSt (p : Program) (l : Launch) (e : Env) (R : Room) (s : State) (m : MethodId) (args : Array Value) (below : List Frame) (meth : Method) (c : Code) (Z : State) (EL : List (String × Nat)) (own : String) (n0 : Nat) (h0 : Heap) (ws : List Addr) (T : State) (h : Heap) (cells slots : Nat) : Prop :=
  ∃ (vm0 : Vm) (k0 : Nat) (locs : List Loc), Stand p l e R (s.setVm vm0) m args below meth c T locs cells slots ∧ T.heap = h ∧ s.Since vm0 k0 ∧ k0 ≤ h.size ∧ Z.Warmed39 (s.setVm vm0).vm ∧ (s.setVm vm0).vm.findClass own = some m.cls ∧ CHr Z EL s.vm h0 vm0 h ∧ Old Z n0 h ∧ Keep h0 h ws ∧ n0 ≤ h.size ∧ Fr n0 locs
end OwnWide
end Jvm.RoadKit
namespace Jvm.Pilot.@@N@@
open Jvm Jvm.ClassFile Sem Op Lib Jvm.Free Jvm.Stand Jvm.LawKit Jvm.RoadKit Bundle Jvm.Pilot.@@N@@.Jvm.D
abbrev own_EL : List (String × Nat) := consts_1
theorem own_EW {Z : State} {a0 : Array Value} (hw : ∀ d ∈ tables_1, d.before a0 Z = true) : EW Z a0 own_EL := (EW.cons (hw _ (List.mem_of_getElem? (i := 22) rfl)) (by decide +kernel) (EW.cons (hw _ (List.mem_of_getElem? (i := 122) rfl)) (by decide +kernel) EW.nil))
theorem own_wS {Z : State} {a0 : Array Value} (hw : ∀ d ∈ tables_1, d.before a0 Z = true) : ∀ a ∈ Bundle.stringAtoms, a.before a0 Z = true := fun d hd => hw d ((by decide +kernel : ∀ d ∈ Bundle.stringAtoms, d ∈ tables_1) d hd)

/-- a is an ordinary Latin-1 String whose bytes are bs -/
def OwnStr (Z : State) (h : Heap) (a : Addr) (bs : List Int32) : Prop := ∃ (t : Addr) (k : ClassId), Exa Z h a "java/lang/String" ∧ Fld Z h a "java/lang/String" "coder" "B" (.int 0) ∧ Fld Z h a "java/lang/String" "value" "[B" (.ref t) ∧ Arv Z h t k .byte (Int32.ofNat bs.length) (bs.map Value.int) (.int 0) ∧ bs.length ≤ 4000
theorem OwnStr.ext {Z : State} {h h' : Heap} {a : Addr} {bs : List Int32} (E : Ext h h') (F : OwnStr Z h a bs) : OwnStr Z h' a bs := by
  obtain ⟨t, k, h1, h2, h3, h4, h5⟩ := F
  exact ⟨t, k, h1.ext E, h2.ext E, h3.ext E, h4.ext E, h5⟩
theorem OwnStr.exa {Z : State} {h : Heap} {a : Addr} {bs : List Int32} (F : OwnStr Z h a bs) : Exa Z h a "java/lang/String" := by
  obtain ⟨t, k, h1, h2, h3, h4, h5⟩ := F
  exact h1
theorem own_exaarv {Z : State} {h : Heap} {t w : Addr} {C : String} {k : ClassId} {ty : FieldType} {z : Int32} {vs : List Value} {d : Value} {a0 : Array Value} {n : Nat} (A : Arv Z h t k ty z vs d) (E : Exa Z h w C) (wi : (Cond.instantiable C n).before a0 Z = true) : t ≠ w := Ne.symm (Exa.neArv E A wi)
theorem OwnStr.wrA {Z : State} {h h' : Heap} {a w : Addr} {bs : List Int32} {sl : Nat} {v : Value} {k : ClassId} {ty : FieldType} {z : Int32} {vs : List Value} {d : Value} {a0 : Array Value} {n : Nat} (W : Wr h h' w sl v) (A : Arv Z h w k ty z vs d) (q : ty ≠ .byte) (wi : (Cond.instantiable "java/lang/String" n).before a0 Z = true) (F : OwnStr Z h a bs) : OwnStr Z h' a bs := by
  obtain ⟨t, k', h1, h2, h3, h4, h5⟩ := F
  have n1 : a ≠ w := Exa.neArv h1 A wi
  have n2 : t ≠ w := Ne.symm (own_arv_ne A h4 q)
  exact ⟨t, k', h1.wr W, h2.other W (Or.inl n1), h3.other W (Or.inl n1), h4.other W n2, h5⟩
theorem OwnStr.wrE {Z : State} {h h' : Heap} {a w : Addr} {bs : List Int32} {sl : Nat} {v : Value} {C : String} {a0 : Array Value} {n : Nat} (W : Wr h h' w sl v) (E : Exa Z h w C) (q : C ≠ "java/lang/String") (wi : (Cond.instantiable C n).before a0 Z = true) (F : OwnStr Z h a bs) : OwnStr Z h' a bs := by
  obtain ⟨t, k', h1, h2, h3, h4, h5⟩ := F
  have n1 : a ≠ w := Exa.ne h1 E (Ne.symm q)
  have n2 : t ≠ w := own_exaarv h4 E wi
  exact ⟨t, k', h1.wr W, h2.other W (Or.inl n1), h3.other W (Or.inl n1), h4.other W n2, h5⟩
theorem OwnStr.keepE {Z : State} {h h' : Heap} {a w : Addr} {bs : List Int32} {C : String} {a0 : Array Value} {n : Nat} (K : Keep h h' [w]) (E : Exa Z h w C) (q : C ≠ "java/lang/String") (wi : (Cond.instantiable C n).before a0 Z = true) (F : OwnStr Z h a bs) : OwnStr Z h' a bs := by
  obtain ⟨t, k', h1, h2, h3, h4, h5⟩ := F
  have n1 : a ≠ w := Exa.ne h1 E (Ne.symm q)
  have n2 : t ≠ w := own_exaarv h4 E wi
  exact ⟨t, k', h1.keep K, h2.keep K (ninS n1 nin0), h3.keep K (ninS n1 nin0), h4.keep K (ninS n2 nin0), h5⟩
theorem own_i32 {n : Nat} (h : n < 2 ^ 31) : (Int32.ofNat n).toInt = n := Int32.toInt_ofNat_of_lt h
theorem own_nn {n : Nat} (h : n < 2 ^ 31) : ¬ Int32.ofNat n < 0 := by
  rw [Int32.lt_iff_toInt_lt, own_i32 h]
  have z : (0 : Int32).toInt = 0 := rfl
  omega
theorem own_clamp {n : Nat} (h : n < 2 ^ 31) : (Int32.ofNat n).toNatClampNeg = n := by
  have := nat_of (own_nn h)
  rw [own_i32 h] at this
  omega
theorem own_lti {i n : Nat} (h : n < 2 ^ 31) (hi : i < n) : Int32.ofNat i < Int32.ofNat n := by
  rw [Int32.lt_iff_toInt_lt, own_i32 h, own_i32 (Nat.lt_trans hi h)]
  omega
theorem own_eqi {i n : Nat} (hi : i < 2 ^ 31) (h : n < 2 ^ 31) (e : Int32.ofNat i = Int32.ofNat n) : i = n := by
  have := congrArg Int32.toInt e
  rw [own_i32 h, own_i32 hi] at this
  omega
theorem own_suci (i : Nat) : Int32.ofNat i + (1 : Int32) = Int32.ofNat (i + 1) := (Int32.ofNat_add i 1).symm
theorem own_mapget (bs : List Int32) (i : Nat) (hi : i < 2 ^ 31) : (bs.map Value.int).getD (Int32.ofNat i).toNatClampNeg (.int 0) = .int (bs.getD i 0) := by
  rw [own_clamp hi]
  simp only [List.getD_eq_getElem?_getD, List.getElem?_map]
  cases bs[i]? <;> rfl
theorem own_exteq {bs ds : List Int32} (hl : bs.length = ds.length) (h : ∀ j, j < bs.length → bs.getD j 0 = ds.getD j 0) : bs = ds := by
  apply List.ext_getElem hl
  intro i h1 h2
  have := h i h1
  simpa [List.getD_eq_getElem?_getD, h1, h2] using this

abbrev own_b (y : Int32) : Int32 := (nar .char y).toInt8.toInt32
theorem own_c255 (x : Int32) : ¬ nar .char ((x &&& (255 : Int32)).toUInt32.toUInt16.toUInt32.toInt32) < 0 ∧ ¬ (255 : Int32) < nar .char ((x &&& (255 : Int32)).toUInt32.toUInt16.toUInt32.toInt32) := by
  have e1 : nar .char ((x &&& (255 : Int32)).toUInt32.toUInt16.toUInt32.toInt32) = x &&& 255 := by
    show ((x &&& (255 : Int32)).toUInt32.toUInt16.toUInt32.toInt32).toUInt32.toUInt16.toUInt32.toInt32 = _
    rw [i2c_mask, i2c_mask]
  rw [e1]
  have h := c_and x 255 (by decide)
  have z : (0 : Int32).toInt = 0 := rfl
  have z2 : (255 : Int32).toInt = 255 := rfl
  constructor <;> rw [Int32.lt_iff_toInt_lt] <;> omega
theorem own_all0 {P : Int32 → Prop} : ∀ x ∈ ([] : List Int32), P x := fun _ q => nomatch q
theorem own_allS {P : Int32 → Prop} {y : Int32} {L : List Int32} (q : P y) (r : ∀ x ∈ L, P x) : ∀ x ∈ y :: L, P x := fun x z => (List.mem_cons.mp z).elim (fun u => u ▸ q) (r x)

abbrev own_ch (b : Int32) : Int32 := (b &&& (255 : Int32)).toUInt32.toUInt16.toUInt32.toInt32
theorem own_narch (y : Int32) : nar .char (own_ch y) = own_ch y := by
  show ((y &&& (255 : Int32)).toUInt32.toUInt16.toUInt32.toInt32).toUInt32.toUInt16.toUInt32.toInt32 = (y &&& (255 : Int32)).toUInt32.toUInt16.toUInt32.toInt32
  rw [i2c_mask, i2c_mask]
theorem own_shr0 (x : Int32) : x >>> ((0 : Int32) &&& 31) = x := by
  have e : ((0 : Int32) &&& 31) = 0 := by decide
  rw [e]; simp
theorem own_subi {a b : Nat} (h : b ≤ a) : (Int32.ofNat a - Int32.ofNat b : Int32) = Int32.ofNat (a - b) := by
  obtain ⟨d, rfl⟩ := Nat.exists_eq_add_of_le h
  rw [Nat.add_sub_cancel_left, Int32.ofNat_add, Int32.add_comm, Int32.add_sub_cancel]
theorem own_nlti {i n : Nat} (hi : i < 2 ^ 31) (h : n ≤ i) : ¬ Int32.ofNat i < Int32.ofNat n := by
  rw [Int32.lt_iff_toInt_lt, own_i32 hi, own_i32 (Nat.lt_of_le_of_lt h hi)]
  omega
theorem own_i32eq {x y : Int32} (h1 : ¬ x < y) (h2 : ¬ y < x) : x = y := by
  rw [Int32.lt_iff_toInt_lt] at h1 h2
  exact Int32.toInt_inj.mp (by omega)
theorem own_cut (bs : List Int32) (s m : Nat) (hm : m ≤ 4) (h : s + m ≤ bs.length) (hb : bs.length < 2 ^ 31) : ∀ i, (((bs.drop s).take m).map Value.int).getD i (.int 0) = (([.int 0, .int 0, .int 0, .int 0] : List Value).take (0 : Int32).toNatClampNeg ++ ((List.range (Int32.ofNat m).toNatClampNeg).map fun i => (bs.map Value.int).getD ((Int32.ofNat s).toNatClampNeg + i) (.int 0)) ++ ([.int 0, .int 0, .int 0, .int 0] : List Value).drop ((0 : Int32).toNatClampNeg + (Int32.ofNat m).toNatClampNeg)).getD i (.int 0) := by
  intro i
  have z : (0 : Int32).toNatClampNeg = 0 := rfl
  · rw [own_clamp (by omega), own_clamp (by omega), z]
    simp only [List.take_zero, List.nil_append, Nat.zero_add, List.getD_eq_getElem?_getD]
    by_cases hi : i < m
    · rw [List.getElem?_append_left (by simp; omega)]
      simp only [List.getElem?_map, List.getElem?_take_of_lt hi, List.getElem?_drop, List.getElem?_range hi, Option.map_some, Option.getD_some]
    · rw [List.getElem?_append_right (by simp; omega), List.getElem?_eq_none (by simp; omega)]
      simp only [List.length_map, List.length_range]
      match m, hm with
      | 0, _ => match i with
        | 0 => rfl
        | 1 => rfl
        | 2 => rfl
        | 3 => rfl
        | k + 4 => simp
      | 1, _ => match i, hi with
        | 1, _ => rfl
        | 2, _ => rfl
        | 3, _ => rfl
        | k + 4, _ => simp
      | 2, _ => match i, hi with
        | 2, _ => rfl
        | 3, _ => rfl
        | k + 4, _ => simp
      | 3, _ => match i, hi with
        | 3, _ => rfl
        | k + 4, _ => simp
      | 4, _ => simp
theorem own_wV {Z : State} {a0 : Array Value} (hw : ∀ d ∈ tables_1, d.before a0 Z = true) : ∀ d ∈ StrChars.Road.words, d.before a0 Z = true := fun d hd => hw d ((by decide +kernel : ∀ d ∈ StrChars.Road.words, d ∈ tables_1) d hd)
theorem si4_d0 : decode jdk_42_method_149_code 0 = .ok (.aload_n 0, 1) := by decide +kernel
theorem si4_d1 : decode jdk_42_method_149_code 1 = .ok (.invokespecial 1, 3) := by decide +kernel
theorem si4_d4 : decode jdk_42_method_149_code 4 = .ok (.iload_n 3, 1) := by decide +kernel
theorem si4_d5 : decode jdk_42_method_149_code 5 = .ok (.ifCond .ne 22, 3) := by decide +kernel
theorem si4_d8 : decode jdk_42_method_149_code 8 = .ok (.aload_n 0, 1) := by decide +kernel
theorem si4_d9 : decode jdk_42_method_149_code 9 = .ok (.ldc 7, 2) := by decide +kernel
theorem si4_d11 : decode jdk_42_method_149_code 11 = .ok (.getfield 9, 3) := by decide +kernel
theorem si4_d14 : decode jdk_42_method_149_code 14 = .ok (.putfield 9, 3) := by decide +kernel
theorem si4_d17 : decode jdk_42_method_149_code 17 = .ok (.aload_n 0, 1) := by decide +kernel
theorem si4_d18 : decode jdk_42_method_149_code 18 = .ok (.ldc 7, 2) := by decide +kernel
theorem si4_d20 : decode jdk_42_method_149_code 20 = .ok (.getfield 15, 3) := by decide +kernel
theorem si4_d23 : decode jdk_42_method_149_code 23 = .ok (.putfield 15, 3) := by decide +kernel
theorem si4_d26 : decode jdk_42_method_149_code 26 = .ok (.return_, 1) := by decide +kernel
theorem si4_pn : plainName "java/lang/String" = true := by first | (simp [plainName, overriddenIn]; done) | decide +kernel
theorem si4_ef (m : MethodId) (x0 : Addr) (x1 : Addr) (x2 : Int32) (x3 : Int32) : entryFrame m #[(.ref x0), (.ref x1), (.int x3), (.int x3), .null] 6 = mkF m 0 #[.val (.ref x0), .val (.ref x1), .val (.int x3), .val (.int x3), .val .null, .unset] [] := by first | (simp [entryFrame, mkF, argsToLocals, Value.category]; done) | rfl
set_option maxRecDepth 65536 in
set_option maxHeartbeats 40000000 in
theorem rm_si4 (l : Launch) (Z : State) (a0 : Array Value) (hw : ∀ d ∈ tables_1, d.before a0 Z = true) (ws : List Jvm.Cond) (a1 : Addr) (b1 : Addr) (uc : Value) (uv : Value) (h0 : Heap) (n0 : Nat) (Z0 : n0 ≤ h0.size) (OL : Old Z n0 h0) (E1 : Exa Z h0 a1 "java/lang/String") (F1 : Fld Z h0 a1 "java/lang/String" "coder" "B" uc) (F2 : Fld Z h0 a1 "java/lang/String" "value" "[B" uv) (g1 : n0 ≤ a1) :
    MetFree l (⟨"java/lang/String", "<init>", "([CIILjava/lang/Void;)V"⟩ : MethodName) (head1 (Jvm.Cond.code (⟨"java/lang/String", "<init>", "([CIILjava/lang/Void;)V"⟩ : MethodName) jdk_42_method_149_code 6 none :: ws) ({ frames := 1, cells := 4, slots := 8, locals := 12 } : Room)) (fun a U => a = #[(.ref a1), (.ref b1), (.int (0 : Int32)), (.int (0 : Int32)), .null] ∧ Z.Warmed39 U.vm ∧ U.heap = h0 ∧ CHv Z own_EL U.vm h0 ∧ ∀ x ∈ ([a1] : List Addr), Safe Z own_EL U.vm h0 x) (fun _ _ _ _ _ => True) (fun _ U o U' => OwnEndW Z own_EL U (fun v h L => v = none ∧ Fr n0 L ∧ Keep h0 h [a1] ∧ OwnStr Z h a1 []) ({ frames := 1, cells := 4, slots := 8, locals := 12 } : Room).cells ({ frames := 1, cells := 4, slots := 8, locals := 12 } : Room).slots o U') := by
  refine MetFree.of_bodySF (plainFor_of_name si4_pn) hisR ?_
  intro p e s m args below meth c s₁ Bd hml0 hP hK
  obtain ⟨rfl, hZ, hh, hCH, hSL⟩ := hP
  have hx := Bd.exec
  have hby := Bd.bytes
  have hml : c.maxLocals = 6 := hml0
  have hown : s.vm.findClass "java/lang/String" = some m.cls := findClass_of_methodNamed Bd.named
  have hnm := (name_of_methodNamed Bd.named Bd.method).1
  have X0 : Stand p l e ({ frames := 1, cells := 4, slots := 8, locals := 12 } : Room) (s.setVm s.vm) m #[(.ref a1), (.ref b1), (.int (0 : Int32)), (.int (0 : Int32)), .null] below meth c s₁ [] 0 0 := Stand.of_body Bd
  have e0 : s₁.heap = h0 := by rw [← hh, Bd.state]; rfl
  have N0 := Fr.nil n0
  have KP0 := Keep.refl h0 [a1]
  have hown : (s.setVm s.vm).vm.findClass "java/lang/String" = some m.cls := hown
  have hZ : Z.Warmed39 (s.setVm s.vm).vm := hZ
  have hS0 : s.Since s.vm 0 := (State.WarmedH.refl s).since 0
  have hk0 : 0 ≤ h0.size := Nat.zero_le _
  have CR0 : CHr Z own_EL s.vm h0 s.vm h0 := CHr.refl hCH
  have hEL := own_EW hw
  have sf_a1 := hSL a1 (List.mem_of_getElem? (i := 0) rfl)
  refine own_go (Q := (OwnEndW Z own_EL s (fun v h L => v = none ∧ Fr n0 L ∧ Keep h0 h [a1] ∧ OwnStr Z h a1 []) ({ frames := 1, cells := 4, slots := 8, locals := 12 } : Room).cells ({ frames := 1, cells := 4, slots := 8, locals := 12 } : Room).slots)) ?_
  refine own_back (fun t k => castTop (si4_ef m a1 b1 (0 : Int32) (0 : Int32)) k) ?_
  show OwnGo p e below (s₁.setTop (mkF m 0 #[.val (.ref a1), .val (.ref b1), .val (.int (0 : Int32)), .val (.int (0 : Int32)), .val .null, .unset] [])) _
  refine own_back (fun t k => XS.aloadN X0.here hx rfl (hb hby si4_d0) rfl rfl k) ?_
  show OwnGo p e below (s₁.setTop (mkF m 1 #[.val (.ref a1), .val (.ref b1), .val (.int (0 : Int32)), .val (.int (0 : Int32)), .val .null, .unset] [(.ref a1)])) _
  obtain ⟨T101, X101, e101, st101⟩ := initO X0 hx hZ hown (hw _ (List.mem_of_getElem? (i := 19) rfl)) (hw _ (List.mem_of_getElem? (i := 20) rfl)) (hw _ (List.mem_of_getElem? (i := 21) rfl)) e0 (g := (mkF m 1 #[.val (.ref a1), .val (.ref b1), .val (.int (0 : Int32)), .val (.int (0 : Int32)), .val .null, .unset] [(.ref a1)])) rfl (by rw [hml]; rfl) rfl (hb hby si4_d1) (by decide) (W := 0) (by show 2 * 0 + _ ≤ _; exact Nat.le_of_eq rfl) (by decide)
  refine own_back st101 ?_
  show OwnGo p e below (T101.setTop (mkF m 4 #[.val (.ref a1), .val (.ref b1), .val (.int (0 : Int32)), .val (.int (0 : Int32)), .val .null, .unset] [])) _
  refine own_back (fun t k => XS.iloadN X101.here hx rfl (hb hby si4_d4) rfl k) ?_
  show OwnGo p e below (T101.setTop (mkF m 5 #[.val (.ref a1), .val (.ref b1), .val (.int (0 : Int32)), .val (.int (0 : Int32)), .val .null, .unset] [(.int (0 : Int32))])) _
  refine own_back (fun t k => XS.ifNo X101.here hx rfl (hb hby si4_d5) rfl (Jvm.Free.XT.i0_ne_f (by decide)) k) ?_
  show OwnGo p e below (T101.setTop (mkF m 8 #[.val (.ref a1), .val (.ref b1), .val (.int (0 : Int32)), .val (.int (0 : Int32)), .val .null, .unset] [])) _
  refine own_back (fun t k => XS.aloadN X101.here hx rfl (hb hby si4_d8) rfl rfl k) ?_
  show OwnGo p e below (T101.setTop (mkF m 9 #[.val (.ref a1), .val (.ref b1), .val (.int (0 : Int32)), .val (.int (0 : Int32)), .val .null, .unset] [(.ref a1)])) _
  obtain ⟨a102, T102, h102, k1102, t102, kb102, X102, e102, E102, hS102, hk102, hZ102, hown102, EX102, FC102, FV102, AV102, la102, lb102, CRl102, hLit102, sx102, st102⟩ := ldcCH X101 hx hZ hown (hw _ (List.mem_of_getElem? (i := 22) rfl)) (own_wS hw) e101 hS0 hk0 hEL (List.mem_of_getElem? (i := 0) rfl) CR0.1 (vs := []) (z := 0) ⟨by decide, by decide⟩ (by decide) (by decide) (g := (mkF m 9 #[.val (.ref a1), .val (.ref b1), .val (.int (0 : Int32)), .val (.int (0 : Int32)), .val .null, .unset] [(.ref a1)])) rfl (hb hby si4_d9) (n := 0) (Nat.le_of_ble_eq_true rfl) (by decide) (Nat.le_of_ble_eq_true rfl) (Nat.le_of_ble_eq_true rfl)
  have O103 := OL.ext E102
  have KP104 := KP0.ext E102
  have Zs105 := Nat.le_trans Z0 E102.1
  have CR106 := CR0.trans CRl102
  have f107 := (CRl102.safe E1.lt sf_a1)
  have f108 := E1.ext E102
  have f109 := F1.ext E102
  have f110 := F2.ext E102
  refine own_back st102 ?_
  show OwnGo p e below (T102.setTop (mkF m 11 #[.val (.ref a1), .val (.ref b1), .val (.int (0 : Int32)), .val (.int (0 : Int32)), .val .null, .unset] [(.ref a102), (.ref a1)])) _
  obtain ⟨T111, X111, e111, st111⟩ := getF X102 hx hZ102 hown102 (host := "") (Or.inl (hw _ (List.mem_of_getElem? (i := 28) rfl))) Via.refl e102 FV102 (g := (mkF m 11 #[.val (.ref a1), .val (.ref b1), .val (.int (0 : Int32)), .val (.int (0 : Int32)), .val .null, .unset] [(.ref a102), (.ref a1)])) rfl rfl (hb hby si4_d11)
  refine own_back st111 ?_
  show OwnGo p e below (T111.setTop (mkF m 14 #[.val (.ref a1), .val (.ref b1), .val (.int (0 : Int32)), .val (.int (0 : Int32)), .val .null, .unset] [(.ref t102), (.ref a1)])) _
  obtain ⟨T112, h112, X112, e112, W112, st112⟩ := putF X111 hx hZ102 hown102 (host := "") (Or.inl (hw _ (List.mem_of_getElem? (i := 28) rfl))) Via.refl e111 f110 f108 (Or.inr ⟨(hw _ (List.mem_of_getElem? (i := 24) rfl)), rfl, hnm⟩) (hw _ (List.mem_of_getElem? (i := 10) rfl)) (ty := (.array .byte)) (by decide) rfl rfl (g := (mkF m 14 #[.val (.ref a1), .val (.ref b1), .val (.int (0 : Int32)), .val (.int (0 : Int32)), .val .null, .unset] [(.ref t102), (.ref a1)])) rfl rfl (hb hby si4_d14)
  have O113 := O103.wr W112 g1
  have KP114 := KP104.wr W112 (Or.inl (List.mem_of_getElem? (i := 0) rfl))
  have Zs115 := Nat.le_trans Zs105 (Keep.of_wr W112).1
  have CR116 := CR106.trans (CHr.wr W112 f107 CR106.1)
  have hk117 := Nat.le_trans hk102 (Keep.of_wr W112).1
  have f118 := (Safe.wr W112 f107 CR106.1 f107)
  have f119 := f108.wr W112
  have f120 := f109.other W112 (Or.inr (slot_ne (Or.inr (hw _ (List.mem_of_getElem? (i := 25) rfl))) (Or.inr (hw _ (List.mem_of_getElem? (i := 24) rfl))) (by decide) (t := .byte) (t' := (.array .byte)) (by decide) (by decide)))
  have f121 := EX102.wr W112
  have f122 := FC102.other W112 (Or.inl (Ne.symm (sx102 a1 f107).1))
  have f123 := FV102.other W112 (Or.inl (Ne.symm (sx102 a1 f107).1))
  have f124 := AV102.other W112 (Ne.symm (sx102 a1 f107).2)
  have F125 := f110.same W112
  have N126 := Fr.snoc X112 N0 g1
  refine own_back st112 ?_
  show OwnGo p e below (T112.setTop (mkF m 17 #[.val (.ref a1), .val (.ref b1), .val (.int (0 : Int32)), .val (.int (0 : Int32)), .val .null, .unset] [])) _
  refine own_back (fun t k => XS.aloadN X112.here hx rfl (hb hby si4_d17) rfl rfl k) ?_
  show OwnGo p e below (T112.setTop (mkF m 18 #[.val (.ref a1), .val (.ref b1), .val (.int (0 : Int32)), .val (.int (0 : Int32)), .val .null, .unset] [(.ref a1)])) _
  obtain ⟨a127, T127, h127, k1127, t127, kb127, X127, e127, E127, hS127, hk127, hZ127, hown127, EX127, FC127, FV127, AV127, la127, lb127, CRl127, hLit127, sx127, st127⟩ := ldcCH X112 hx hZ102 hown102 (hw _ (List.mem_of_getElem? (i := 22) rfl)) (own_wS hw) e112 hS102 hk117 hEL (List.mem_of_getElem? (i := 0) rfl) CR116.1 (vs := []) (z := 0) ⟨by decide, by decide⟩ (by decide) (by decide) (g := (mkF m 18 #[.val (.ref a1), .val (.ref b1), .val (.int (0 : Int32)), .val (.int (0 : Int32)), .val .null, .unset] [(.ref a1)])) rfl (hb hby si4_d18) (n := 0) (Nat.le_of_ble_eq_true rfl) (by decide) (Nat.le_of_ble_eq_true rfl) (Nat.le_of_ble_eq_true rfl)
  have O128 := O113.ext E127
  have KP129 := KP114.ext E127
  have Zs130 := Nat.le_trans Zs115 E127.1
  have CR131 := CR116.trans CRl127
  have f132 := (CRl127.safe f119.lt f118)
  have f133 := f119.ext E127
  have f134 := f120.ext E127
  have f135 := f121.ext E127
  have f136 := f122.ext E127
  have f137 := f123.ext E127
  have f138 := f124.ext E127
  have f139 := F125.ext E127
  refine own_back st127 ?_
  show OwnGo p e below (T127.setTop (mkF m 20 #[.val (.ref a1), .val (.ref b1), .val (.int (0 : Int32)), .val (.int (0 : Int32)), .val .null, .unset] [(.ref a127), (.ref a1)])) _
  obtain ⟨T140, X140, e140, st140⟩ := getF X127 hx hZ127 hown127 (host := "") (Or.inl (hw _ (List.mem_of_getElem? (i := 29) rfl))) Via.refl e127 FC127 (g := (mkF m 20 #[.val (.ref a1), .val (.ref b1), .val (.int (0 : Int32)), .val (.int (0 : Int32)), .val .null, .unset] [(.ref a127), (.ref a1)])) rfl rfl (hb hby si4_d20)
  refine own_back st140 ?_
  show OwnGo p e below (T140.setTop (mkF m 23 #[.val (.ref a1), .val (.ref b1), .val (.int (0 : Int32)), .val (.int (0 : Int32)), .val .null, .unset] [(.int (0 : Int32)), (.ref a1)])) _
  obtain ⟨T141, h141, X141, e141, W141, st141⟩ := putF X140 hx hZ127 hown127 (host := "") (Or.inl (hw _ (List.mem_of_getElem? (i := 29) rfl))) Via.refl e140 f134 f133 (Or.inr ⟨(hw _ (List.mem_of_getElem? (i := 25) rfl)), rfl, hnm⟩) (hw _ (List.mem_of_getElem? (i := 10) rfl)) (ty := .byte) (by decide) rfl rfl (g := (mkF m 23 #[.val (.ref a1), .val (.ref b1), .val (.int (0 : Int32)), .val (.int (0 : Int32)), .val .null, .unset] [(.int (0 : Int32)), (.ref a1)])) rfl rfl (hb hby si4_d23)
  have O142 := O128.wr W141 g1
  have KP143 := KP129.wr W141 (Or.inl (List.mem_of_getElem? (i := 0) rfl))
  have Zs144 := Nat.le_trans Zs130 (Keep.of_wr W141).1
  have CR145 := CR131.trans (CHr.wr W141 f132 CR131.1)
  have hk146 := Nat.le_trans hk127 (Keep.of_wr W141).1
  have f147 := (Safe.wr W141 f132 CR131.1 f132)
  have f148 := f133.wr W141
  have f149 := f135.wr W141
  have f150 := f136.other W141 (Or.inl (Ne.symm (sx102 a1 f107).1))
  have f151 := f137.other W141 (Or.inl (Ne.symm (sx102 a1 f107).1))
  have f152 := f138.other W141 (Ne.symm (sx102 a1 f107).2)
  have f153 := f139.other W141 (Or.inr (slot_ne (Or.inr (hw _ (List.mem_of_getElem? (i := 24) rfl))) (Or.inr (hw _ (List.mem_of_getElem? (i := 25) rfl))) (by decide) (t := (.array .byte)) (t' := .byte) (by decide) (by decide)))
  have f154 := EX127.wr W141
  have f155 := FC127.other W141 (Or.inl (Ne.symm (sx127 a1 f132).1))
  have f156 := FV127.other W141 (Or.inl (Ne.symm (sx127 a1 f132).1))
  have f157 := AV127.other W141 (Ne.symm (sx127 a1 f132).2)
  have F158 := f134.same W141
  have N159 := Fr.snoc X141 N126 g1
  refine own_back st141 ?_
  show OwnGo p e below (T141.setTop (mkF m 26 #[.val (.ref a1), .val (.ref b1), .val (.int (0 : Int32)), .val (.int (0 : Int32)), .val .null, .unset] [])) _
  refine own_retVW X141 hx Bd.notSynchronized Bd.returns hS127 hk146 hZ127 hEL (hh ▸ CR145) (hb hby si4_d26) e141 (Nat.le_of_ble_eq_true rfl) (Nat.le_of_ble_eq_true rfl) ?_
  exact ⟨rfl, N159, KP143, t102, _, f148, F158, f153, f152, Nat.le_of_ble_eq_true rfl⟩
theorem si1_d0 : decode jdk_42_method_3_code 0 = .ok (.aload_n 0, 1) := by decide +kernel
theorem si1_d1 : decode jdk_42_method_3_code 1 = .ok (.aload_n 1, 1) := by decide +kernel
theorem si1_d2 : decode jdk_42_method_3_code 2 = .ok (.iconst 0, 1) := by decide +kernel
theorem si1_d3 : decode jdk_42_method_3_code 3 = .ok (.aload_n 1, 1) := by decide +kernel
theorem si1_d4 : decode jdk_42_method_3_code 4 = .ok (.arraylength, 1) := by decide +kernel
theorem si1_d5 : decode jdk_42_method_3_code 5 = .ok (.aconst_null, 1) := by decide +kernel
theorem si1_d6 : decode jdk_42_method_3_code 6 = .ok (.invokespecial 27, 3) := by decide +kernel
theorem si1_d9 : decode jdk_42_method_3_code 9 = .ok (.return_, 1) := by decide +kernel
theorem si1_pn : plainName "java/lang/String" = true := by first | (simp [plainName, overriddenIn]; done) | decide +kernel
theorem si1_pd0 : parseMethodDescriptor "([CIILjava/lang/Void;)V" = some ⟨[(.array .char), .int, .int, (.object "java/lang/Void")], none⟩ := by decide +kernel
theorem si1_ef (m : MethodId) (x0 : Addr) (x1 : Addr) : entryFrame m #[(.ref x0), (.ref x1)] 2 = mkF m 0 #[.val (.ref x0), .val (.ref x1)] [] := by first | (simp [entryFrame, mkF, argsToLocals, Value.category]; done) | rfl
set_option maxRecDepth 65536 in
set_option maxHeartbeats 40000000 in
theorem rm_si1 (l : Launch) (Z : State) (a0 : Array Value) (hw : ∀ d ∈ tables_1, d.before a0 Z = true) (ws : List Jvm.Cond) (a1 : Addr) (b1 : Addr) (uc : Value) (uv : Value) (kc : ClassId) (h0 : Heap) (n0 : Nat) (Z0 : n0 ≤ h0.size) (OL : Old Z n0 h0) (E1 : Exa Z h0 a1 "java/lang/String") (F1 : Fld Z h0 a1 "java/lang/String" "coder" "B" uc) (F2 : Fld Z h0 a1 "java/lang/String" "value" "[B" uv) (g1 : n0 ≤ a1) (V1 : Arv Z h0 b1 kc .char (0 : Int32) [] (.int 0)) :
    MetFree l (⟨"java/lang/String", "<init>", "([C)V"⟩ : MethodName) (head1 (Jvm.Cond.code (⟨"java/lang/String", "<init>", "([C)V"⟩ : MethodName) jdk_42_method_3_code 2 none :: ws) ({ frames := 2, cells := 4, slots := 8, locals := 30 } : Room)) (fun a U => a = #[(.ref a1), (.ref b1)] ∧ Z.Warmed39 U.vm ∧ U.heap = h0 ∧ CHv Z own_EL U.vm h0 ∧ ∀ x ∈ ([a1] : List Addr), Safe Z own_EL U.vm h0 x) (fun _ _ _ _ _ => True) (fun _ U o U' => OwnEndW Z own_EL U (fun v h L => v = none ∧ Fr n0 L ∧ Keep h0 h [a1] ∧ OwnStr Z h a1 []) ({ frames := 2, cells := 4, slots := 8, locals := 30 } : Room).cells ({ frames := 2, cells := 4, slots := 8, locals := 30 } : Room).slots o U') := by
  refine MetFree.of_bodySF (plainFor_of_name si1_pn) hisR ?_
  intro p e s m args below meth c s₁ Bd hml0 hP hK
  obtain ⟨rfl, hZ, hh, hCH, hSL⟩ := hP
  have hx := Bd.exec
  have hby := Bd.bytes
  have hml : c.maxLocals = 2 := hml0
  have hown : s.vm.findClass "java/lang/String" = some m.cls := findClass_of_methodNamed Bd.named
  have hnm := (name_of_methodNamed Bd.named Bd.method).1
  have X0 : Stand p l e ({ frames := 2, cells := 4, slots := 8, locals := 30 } : Room) (s.setVm s.vm) m #[(.ref a1), (.ref b1)] below meth c s₁ [] 0 0 := Stand.of_body Bd
  have e0 : s₁.heap = h0 := by rw [← hh, Bd.state]; rfl
  have N0 := Fr.nil n0
  have KP0 := Keep.refl h0 [a1]
  have hown : (s.setVm s.vm).vm.findClass "java/lang/String" = some m.cls := hown
  have hZ : Z.Warmed39 (s.setVm s.vm).vm := hZ
  have hS0 : s.Since s.vm 0 := (State.WarmedH.refl s).since 0
  have hk0 : 0 ≤ h0.size := Nat.zero_le _
  have CR0 : CHr Z own_EL s.vm h0 s.vm h0 := CHr.refl hCH
  have hEL := own_EW hw
  have sf_a1 := hSL a1 (List.mem_of_getElem? (i := 0) rfl)
  refine own_go (Q := (OwnEndW Z own_EL s (fun v h L => v = none ∧ Fr n0 L ∧ Keep h0 h [a1] ∧ OwnStr Z h a1 []) ({ frames := 2, cells := 4, slots := 8, locals := 30 } : Room).cells ({ frames := 2, cells := 4, slots := 8, locals := 30 } : Room).slots)) ?_
  refine own_back (fun t k => castTop (si1_ef m a1 b1) k) ?_
  show OwnGo p e below (s₁.setTop (mkF m 0 #[.val (.ref a1), .val (.ref b1)] [])) _
  refine own_back (fun t k => XS.aloadN X0.here hx rfl (hb hby si1_d0) rfl rfl k) ?_
  show OwnGo p e below (s₁.setTop (mkF m 1 #[.val (.ref a1), .val (.ref b1)] [(.ref a1)])) _
  refine own_back (fun t k => XS.aloadN X0.here hx rfl (hb hby si1_d1) rfl rfl k) ?_
  show OwnGo p e below (s₁.setTop (mkF m 2 #[.val (.ref a1), .val (.ref b1)] [(.ref b1), (.ref a1)])) _
  refine own_back (fun t k => XS.iconst X0.here hx rfl (hb hby si1_d2) k) ?_
  show OwnGo p e below (s₁.setTop (mkF m 3 #[.val (.ref a1), .val (.ref b1)] [(.int (0 : Int32)), (.ref b1), (.ref a1)])) _
  refine own_back (fun t k => XS.aloadN X0.here hx rfl (hb hby si1_d3) rfl rfl k) ?_
  show OwnGo p e below (s₁.setTop (mkF m 4 #[.val (.ref a1), .val (.ref b1)] [(.ref b1), (.int (0 : Int32)), (.ref b1), (.ref a1)])) _
  obtain ⟨c160, A160, q160, S160, M160, H160, U160⟩ := id V1
  refine own_back (fun t k => X0.arraylength hx (own_hat e0 A160.1) (State.isArrayOf_alike hZ.alike A160.2.1) (g := (mkF m 4 #[.val (.ref a1), .val (.ref b1)] [(.ref b1), (.int (0 : Int32)), (.ref b1), (.ref a1)])) rfl rfl (hb hby si1_d4) t k) ?_
  rw [len_of S160 M160]
  show OwnGo p e below (s₁.setTop (mkF m 5 #[.val (.ref a1), .val (.ref b1)] [(.int (0 : Int32)), (.int (0 : Int32)), (.ref b1), (.ref a1)])) _
  refine own_back (fun t k => XS.aconstNull X0.here hx rfl (hb hby si1_d5) k) ?_
  show OwnGo p e below (s₁.setTop (mkF m 6 #[.val (.ref a1), .val (.ref b1)] [.null, (.int (0 : Int32)), (.int (0 : Int32)), (.ref b1), (.ref a1)])) _
  obtain ⟨_, _, ⟨T161, L161, k161, n161⟩, -, X161, hSn161, hgr161, ⟨Lc161, hQ161, l161, y161, z161, CRn161⟩, st161⟩ := X0.specialBackS hx (y := (⟨"java/lang/String", "<init>", "([CIILjava/lang/Void;)V"⟩ : MethodName)) rfl hown (mvT hZ (hw _ (List.mem_of_getElem? (i := 15) rfl))) (mvT hZ (hw _ (List.mem_of_getElem? (i := 16) rfl))) (mvT hZ (hw _ (List.mem_of_getElem? (i := 18) rfl))) (by decide) (own_backH (W := 0) (rm_si4 l Z a0 hw [] a1 b1 uc uv h0 n0 Z0 OL E1 F1 F2 g1) hZ (hw _ (List.mem_of_getElem? (i := 18) rfl)) (hw _ (List.mem_of_getElem? (i := 11) rfl)) (by decide) (by decide) hEL CR0.1 (sfS sf_a1 sf0) (allS E1.lt all0)) (g := (mkF m 6 #[.val (.ref a1), .val (.ref b1)] [.null, (.int (0 : Int32)), (.int (0 : Int32)), (.ref b1), (.ref a1)])) rfl (by rw [hml]; rfl) (Steps.refl _) (a := a1) (argsL := [(.ref b1), (.int (0 : Int32)), (.int (0 : Int32)), .null]) (rest := []) (lenOf si1_pd0 rfl) rfl (by show 2 * 0 + _ ≤ _; exact Nat.le_of_eq rfl) (hb hby si1_d6) (fun _ _ => ⟨rfl, e0, Nat.le_of_ble_eq_true rfl, Nat.le_of_ble_eq_true rfl⟩)
  dsimp only [Pt.U, Pt.locs, Pt.cells, Pt.slots] at X161 l161 y161 z161 st161 hQ161 hSn161 hgr161 CRn161
  subst l161 y161 z161
  obtain ⟨Xr161, hSr161, hZr161, hownr161⟩ := rebS hS0 (own_hle e0 hk0) X161 hSn161 hgr161 hZ hown
  obtain ⟨rfl, N161q, K161, B161⟩ := hQ161
  refine own_seq st161 ?_
  have N161 := Fr.app N0 N161q
  show OwnGo p e below (T161.setTop (mkF m 9 #[.val (.ref a1), .val (.ref b1)] [])) _
  refine own_retVW Xr161 hx Bd.notSynchronized Bd.returns hSr161 (Nat.le_refl _) hZr161 hEL (hh ▸ (CR0.trans CRn161)) (hb hby si1_d9) rfl (Nat.le_of_ble_eq_true rfl) (Nat.le_of_ble_eq_true rfl) ?_
  exact ⟨rfl, N161, K161, B161⟩
theorem cod_d0 : decode jdk_42_method_152_code 0 = .ok (.getstatic 38, 3) := by decide +kernel
theorem cod_d3 : decode jdk_42_method_152_code 3 = .ok (.ifCond .eq 10, 3) := by decide +kernel
theorem cod_d6 : decode jdk_42_method_152_code 6 = .ok (.aload_n 0, 1) := by decide +kernel
theorem cod_d7 : decode jdk_42_method_152_code 7 = .ok (.getfield 15, 3) := by decide +kernel
theorem cod_d10 : decode jdk_42_method_152_code 10 = .ok (.goto 4, 3) := by decide +kernel
theorem cod_d14 : decode jdk_42_method_152_code 14 = .ok (.ireturn, 1) := by decide +kernel
theorem cod_pn : plainName "java/lang/String" = true := by first | (simp [plainName, overriddenIn]; done) | decide +kernel
theorem cod_ef (m : MethodId) (x0 : Addr) : entryFrame m #[(.ref x0)] 1 = mkF m 0 #[.val (.ref x0)] [] := by first | (simp [entryFrame, mkF, argsToLocals, Value.category]; done) | rfl
set_option maxRecDepth 65536 in
set_option maxHeartbeats 40000000 in
theorem rm_cod (l : Launch) (Z : State) (a0 : Array Value) (hw : ∀ d ∈ tables_1, d.before a0 Z = true) (ws : List Jvm.Cond) (a1 : Addr) (cz : Int32) (h0 : Heap) (n0 : Nat) (Z0 : n0 ≤ h0.size) (OL : Old Z n0 h0) (F1 : Fld Z h0 a1 "java/lang/String" "coder" "B" (.int 0)) (SC : Sta Z Z.heap "java/lang/String" "COMPACT_STRINGS" "Z" (.int cz)) (hcz : ¬ cz = 0) :
    MetFree l (⟨"java/lang/String", "coder", "()B"⟩ : MethodName) (head1 (Jvm.Cond.code (⟨"java/lang/String", "coder", "()B"⟩ : MethodName) jdk_42_method_152_code 1 (some .byte) :: ws) ({ frames := 0, cells := 0, slots := 0, locals := 0 } : Room)) (fun a U => a = #[(.ref a1)] ∧ Z.Warmed39 U.vm ∧ U.heap = h0) (fun _ _ _ _ _ => True) (fun _ U o U' => OwnEnd U (fun v h L => v = some (.int 0) ∧ Fr n0 L ∧ h = h0) ({ frames := 0, cells := 0, slots := 0, locals := 0 } : Room).cells ({ frames := 0, cells := 0, slots := 0, locals := 0 } : Room).slots o U') := by
  refine MetFree.of_bodySF (plainFor_of_name cod_pn) hisR ?_
  intro p e s m args below meth c s₁ Bd hml0 hP hK
  obtain ⟨rfl, hZ, hh⟩ := hP
  have hx := Bd.exec
  have hby := Bd.bytes
  have hml : c.maxLocals = 1 := hml0
  have hown : s.vm.findClass "java/lang/String" = some m.cls := findClass_of_methodNamed Bd.named
  have hnm := (name_of_methodNamed Bd.named Bd.method).1
  have X0 : Stand p l e ({ frames := 0, cells := 0, slots := 0, locals := 0 } : Room) s m #[(.ref a1)] below meth c s₁ [] 0 0 := Stand.of_body Bd
  have e0 : s₁.heap = h0 := by rw [← hh, Bd.state]; rfl
  have N0 := Fr.nil n0
  have KP0 := Keep.refl h0 []
  refine own_go (Q := (OwnEnd s (fun v h L => v = some (.int 0) ∧ Fr n0 L ∧ h = h0) ({ frames := 0, cells := 0, slots := 0, locals := 0 } : Room).cells ({ frames := 0, cells := 0, slots := 0, locals := 0 } : Room).slots)) ?_
  refine own_back (fun t k => castTop (cod_ef m a1) k) ?_
  show OwnGo p e below (s₁.setTop (mkF m 0 #[.val (.ref a1)] [])) _
  obtain ⟨T162, X162, e162, st162⟩ := getS2 X0 hx hZ hown (host := "") (Or.inl (hw _ (List.mem_of_getElem? (i := 44) rfl))) Via.refl e0 (SC.ext OL.2) (g := (mkF m 0 #[.val (.ref a1)] [])) rfl (hb hby cod_d0)
  refine own_back st162 ?_
  show OwnGo p e below (T162.setTop (mkF m 3 #[.val (.ref a1)] [(.int cz)])) _
  refine own_back (fun t k => XS.ifNo X162.here hx rfl (hb hby cod_d3) rfl (Jvm.Free.XT.i0_eq_f hcz) k) ?_
  show OwnGo p e below (T162.setTop (mkF m 6 #[.val (.ref a1)] [])) _
  refine own_back (fun t k => XS.aloadN X162.here hx rfl (hb hby cod_d6) rfl rfl k) ?_
  show OwnGo p e below (T162.setTop (mkF m 7 #[.val (.ref a1)] [(.ref a1)])) _
  obtain ⟨T163, X163, e163, st163⟩ := getF X162 hx hZ hown (host := "") (Or.inl (hw _ (List.mem_of_getElem? (i := 29) rfl))) Via.refl e162 F1 (g := (mkF m 7 #[.val (.ref a1)] [(.ref a1)])) rfl rfl (hb hby cod_d7)
  refine own_back st163 ?_
  show OwnGo p e below (T163.setTop (mkF m 10 #[.val (.ref a1)] [(.int (0 : Int32))])) _
  refine own_back (fun t k => XS.goto X163.here hx rfl (pc0 := 10) (pc' := 14) rfl (hb hby cod_d10) (by decide) (by decide) k) ?_
  show OwnGo p e below (T163.setTop (mkF m 14 #[.val (.ref a1)] [(.int (0 : Int32))])) _
  refine own_retN X163 hx Bd.notSynchronized (t := .byte) (z := (0 : Int32)) Bd.returns (by simp) rfl (hb hby cod_d14) e163 (Nat.le_of_ble_eq_true rfl) (Nat.le_of_ble_eq_true rfl) ?_
  exact ⟨rfl, N0, rfl⟩
theorem isL_d0 : decode jdk_42_method_154_code 0 = .ok (.getstatic 38, 3) := by decide +kernel
theorem isL_d3 : decode jdk_42_method_154_code 3 = .ok (.ifCond .eq 14, 3) := by decide +kernel
theorem isL_d6 : decode jdk_42_method_154_code 6 = .ok (.aload_n 0, 1) := by decide +kernel
theorem isL_d7 : decode jdk_42_method_154_code 7 = .ok (.getfield 15, 3) := by decide +kernel
theorem isL_d10 : decode jdk_42_method_154_code 10 = .ok (.ifCond .ne 7, 3) := by decide +kernel
theorem isL_d13 : decode jdk_42_method_154_code 13 = .ok (.iconst 1, 1) := by decide +kernel
theorem isL_d14 : decode jdk_42_method_154_code 14 = .ok (.goto 4, 3) := by decide +kernel
theorem isL_d18 : decode jdk_42_method_154_code 18 = .ok (.ireturn, 1) := by decide +kernel
theorem isL_pn : plainName "java/lang/String" = true := by first | (simp [plainName, overriddenIn]; done) | decide +kernel
theorem isL_ef (m : MethodId) (x0 : Addr) : entryFrame m #[(.ref x0)] 1 = mkF m 0 #[.val (.ref x0)] [] := by first | (simp [entryFrame, mkF, argsToLocals, Value.category]; done) | rfl
set_option maxRecDepth 65536 in
set_option maxHeartbeats 40000000 in
theorem rm_isL (l : Launch) (Z : State) (a0 : Array Value) (hw : ∀ d ∈ tables_1, d.before a0 Z = true) (ws : List Jvm.Cond) (a1 : Addr) (cz : Int32) (h0 : Heap) (n0 : Nat) (Z0 : n0 ≤ h0.size) (OL : Old Z n0 h0) (F1 : Fld Z h0 a1 "java/lang/String" "coder" "B" (.int 0)) (SC : Sta Z Z.heap "java/lang/String" "COMPACT_STRINGS" "Z" (.int cz)) (hcz : ¬ cz = 0) :
    MetFree l (⟨"java/lang/String", "isLatin1", "()Z"⟩ : MethodName) (head1 (Jvm.Cond.code (⟨"java/lang/String", "isLatin1", "()Z"⟩ : MethodName) jdk_42_method_154_code 1 (some .boolean) :: ws) ({ frames := 0, cells := 0, slots := 0, locals := 0 } : Room)) (fun a U => a = #[(.ref a1)] ∧ Z.Warmed39 U.vm ∧ U.heap = h0) (fun _ _ _ _ _ => True) (fun _ U o U' => OwnEnd U (fun v h L => v = some (.int 1) ∧ Fr n0 L ∧ h = h0) ({ frames := 0, cells := 0, slots := 0, locals := 0 } : Room).cells ({ frames := 0, cells := 0, slots := 0, locals := 0 } : Room).slots o U') := by
  refine MetFree.of_bodySF (plainFor_of_name isL_pn) hisR ?_
  intro p e s m args below meth c s₁ Bd hml0 hP hK
  obtain ⟨rfl, hZ, hh⟩ := hP
  have hx := Bd.exec
  have hby := Bd.bytes
  have hml : c.maxLocals = 1 := hml0
  have hown : s.vm.findClass "java/lang/String" = some m.cls := findClass_of_methodNamed Bd.named
  have hnm := (name_of_methodNamed Bd.named Bd.method).1
  have X0 : Stand p l e ({ frames := 0, cells := 0, slots := 0, locals := 0 } : Room) s m #[(.ref a1)] below meth c s₁ [] 0 0 := Stand.of_body Bd
  have e0 : s₁.heap = h0 := by rw [← hh, Bd.state]; rfl
  have N0 := Fr.nil n0
  have KP0 := Keep.refl h0 []
  refine own_go (Q := (OwnEnd s (fun v h L => v = some (.int 1) ∧ Fr n0 L ∧ h = h0) ({ frames := 0, cells := 0, slots := 0, locals := 0 } : Room).cells ({ frames := 0, cells := 0, slots := 0, locals := 0 } : Room).slots)) ?_
  refine own_back (fun t k => castTop (isL_ef m a1) k) ?_
  show OwnGo p e below (s₁.setTop (mkF m 0 #[.val (.ref a1)] [])) _
  obtain ⟨T164, X164, e164, st164⟩ := getS2 X0 hx hZ hown (host := "") (Or.inl (hw _ (List.mem_of_getElem? (i := 44) rfl))) Via.refl e0 (SC.ext OL.2) (g := (mkF m 0 #[.val (.ref a1)] [])) rfl (hb hby isL_d0)
  refine own_back st164 ?_
  show OwnGo p e below (T164.setTop (mkF m 3 #[.val (.ref a1)] [(.int cz)])) _
  refine own_back (fun t k => XS.ifNo X164.here hx rfl (hb hby isL_d3) rfl (Jvm.Free.XT.i0_eq_f hcz) k) ?_
  show OwnGo p e below (T164.setTop (mkF m 6 #[.val (.ref a1)] [])) _
  refine own_back (fun t k => XS.aloadN X164.here hx rfl (hb hby isL_d6) rfl rfl k) ?_
  show OwnGo p e below (T164.setTop (mkF m 7 #[.val (.ref a1)] [(.ref a1)])) _
  obtain ⟨T165, X165, e165, st165⟩ := getF X164 hx hZ hown (host := "") (Or.inl (hw _ (List.mem_of_getElem? (i := 29) rfl))) Via.refl e164 F1 (g := (mkF m 7 #[.val (.ref a1)] [(.ref a1)])) rfl rfl (hb hby isL_d7)
  refine own_back st165 ?_
  show OwnGo p e below (T165.setTop (mkF m 10 #[.val (.ref a1)] [(.int (0 : Int32))])) _
  refine own_back (fun t k => XS.ifNo X165.here hx rfl (hb hby isL_d10) rfl (Jvm.Free.XT.i0_ne_f (by decide)) k) ?_
  show OwnGo p e below (T165.setTop (mkF m 13 #[.val (.ref a1)] [])) _
  refine own_back (fun t k => XS.iconst X165.here hx rfl (hb hby isL_d13) k) ?_
  show OwnGo p e below (T165.setTop (mkF m 14 #[.val (.ref a1)] [(.int (1 : Int32))])) _
  refine own_back (fun t k => XS.goto X165.here hx rfl (pc0 := 14) (pc' := 18) rfl (hb hby isL_d14) (by decide) (by decide) k) ?_
  show OwnGo p e below (T165.setTop (mkF m 18 #[.val (.ref a1)] [(.int (1 : Int32))])) _
  refine own_retN X165 hx Bd.notSynchronized (t := .boolean) (z := (1 : Int32)) Bd.returns (by simp) rfl (hb hby isL_d18) e165 (Nat.le_of_ble_eq_true rfl) (Nat.le_of_ble_eq_true rfl) ?_
  exact ⟨rfl, N0, rfl⟩
theorem len_d0 : decode jdk_42_method_54_code 0 = .ok (.aload_n 0, 1) := by decide +kernel
theorem len_d1 : decode jdk_42_method_54_code 1 = .ok (.getfield 9, 3) := by decide +kernel
theorem len_d4 : decode jdk_42_method_54_code 4 = .ok (.arraylength, 1) := by decide +kernel
theorem len_d5 : decode jdk_42_method_54_code 5 = .ok (.aload_n 0, 1) := by decide +kernel
theorem len_d6 : decode jdk_42_method_54_code 6 = .ok (.invokevirtual 335, 3) := by decide +kernel
theorem len_d9 : decode jdk_42_method_54_code 9 = .ok (.ishr, 1) := by decide +kernel
theorem len_d10 : decode jdk_42_method_54_code 10 = .ok (.ireturn, 1) := by decide +kernel
theorem len_pn : plainName "java/lang/String" = true := by first | (simp [plainName, overriddenIn]; done) | decide +kernel
theorem len_pd0 : parseMethodDescriptor "()B" = some ⟨[], some .byte⟩ := by decide +kernel
theorem len_ef (m : MethodId) (x0 : Addr) : entryFrame m #[(.ref x0)] 1 = mkF m 0 #[.val (.ref x0)] [] := by first | (simp [entryFrame, mkF, argsToLocals, Value.category]; done) | rfl
set_option maxRecDepth 65536 in
set_option maxHeartbeats 40000000 in
theorem rm_len (l : Launch) (Z : State) (a0 : Array Value) (hw : ∀ d ∈ tables_1, d.before a0 Z = true) (ws : List Jvm.Cond) (a1 : Addr) (bs : List Int32) (cz : Int32) (h0 : Heap) (n0 : Nat) (Z0 : n0 ≤ h0.size) (OL : Old Z n0 h0) (B1 : OwnStr Z h0 a1 bs) (SC : Sta Z Z.heap "java/lang/String" "COMPACT_STRINGS" "Z" (.int cz)) (hcz : ¬ cz = 0) :
    MetFree l (⟨"java/lang/String", "length", "()I"⟩ : MethodName) (head1 (Jvm.Cond.code (⟨"java/lang/String", "length", "()I"⟩ : MethodName) jdk_42_method_54_code 1 (some .int) :: ws) ({ frames := 1, cells := 0, slots := 0, locals := 20 } : Room)) (fun a U => a = #[(.ref a1)] ∧ Z.Warmed39 U.vm ∧ U.heap = h0) (fun _ _ _ _ _ => True) (fun _ U o U' => OwnEnd U (fun v h L => v = some (.int (Int32.ofNat bs.length)) ∧ Fr n0 L ∧ h = h0) ({ frames := 1, cells := 0, slots := 0, locals := 20 } : Room).cells ({ frames := 1, cells := 0, slots := 0, locals := 20 } : Room).slots o U') := by
  refine MetFree.of_bodySF (plainFor_of_name len_pn) hisR ?_
  intro p e s m args below meth c s₁ Bd hml0 hP hK
  obtain ⟨rfl, hZ, hh⟩ := hP
  have hx := Bd.exec
  have hby := Bd.bytes
  have hml : c.maxLocals = 1 := hml0
  have hown : s.vm.findClass "java/lang/String" = some m.cls := findClass_of_methodNamed Bd.named
  have hnm := (name_of_methodNamed Bd.named Bd.method).1
  have X0 : Stand p l e ({ frames := 1, cells := 0, slots := 0, locals := 20 } : Room) s m #[(.ref a1)] below meth c s₁ [] 0 0 := Stand.of_body Bd
  have e0 : s₁.heap = h0 := by rw [← hh, Bd.state]; rfl
  have N0 := Fr.nil n0
  have KP0 := Keep.refl h0 []
  refine own_go (Q := (OwnEnd s (fun v h L => v = some (.int (Int32.ofNat bs.length)) ∧ Fr n0 L ∧ h = h0) ({ frames := 1, cells := 0, slots := 0, locals := 20 } : Room).cells ({ frames := 1, cells := 0, slots := 0, locals := 20 } : Room).slots)) ?_
  refine own_back (fun t k => castTop (len_ef m a1) k) ?_
  show OwnGo p e below (s₁.setTop (mkF m 0 #[.val (.ref a1)] [])) _
  obtain ⟨t1, k1, E1, C1, F1, V1, m1⟩ := id B1
  refine own_back (fun t k => XS.aloadN X0.here hx rfl (hb hby len_d0) rfl rfl k) ?_
  show OwnGo p e below (s₁.setTop (mkF m 1 #[.val (.ref a1)] [(.ref a1)])) _
  obtain ⟨T166, X166, e166, st166⟩ := getF X0 hx hZ hown (host := "") (Or.inl (hw _ (List.mem_of_getElem? (i := 28) rfl))) Via.refl e0 F1 (g := (mkF m 1 #[.val (.ref a1)] [(.ref a1)])) rfl rfl (hb hby len_d1)
  refine own_back st166 ?_
  show OwnGo p e below (T166.setTop (mkF m 4 #[.val (.ref a1)] [(.ref t1)])) _
  obtain ⟨c167, A167, q167, S167, M167, H167, U167⟩ := id V1
  refine own_back (fun t k => X166.arraylength hx (own_hat e166 A167.1) (State.isArrayOf_alike hZ.alike A167.2.1) (g := (mkF m 4 #[.val (.ref a1)] [(.ref t1)])) rfl rfl (hb hby len_d4) t k) ?_
  rw [len_of S167 M167]
  show OwnGo p e below (T166.setTop (mkF m 5 #[.val (.ref a1)] [(.int (Int32.ofNat bs.length))])) _
  refine own_back (fun t k => XS.aloadN X166.here hx rfl (hb hby len_d5) rfl rfl k) ?_
  show OwnGo p e below (T166.setTop (mkF m 6 #[.val (.ref a1)] [(.ref a1), (.int (Int32.ofNat bs.length))])) _
  obtain ⟨cq168, kq168, q168a, q168b, q168c⟩ := isOf hZ e166 E1
  obtain ⟨_, _, ⟨T168, L168, k168, n168⟩, -, X168, ⟨Lc168, hQ168, l168, y168, z168⟩, st168⟩ := X166.virtualBack hx (y := (⟨"java/lang/String", "coder", "()B"⟩ : MethodName)) (z := (⟨"java/lang/String", "coder", "()B"⟩ : MethodName)) hown (mvT hZ (hw _ (List.mem_of_getElem? (i := 39) rfl))) (mvT hZ (hw _ (List.mem_of_getElem? (i := 40) rfl))) (notFace_of_selects (args := #[]) (mvT hZ (hw _ (List.mem_of_getElem? (i := 42) rfl)))) (mvT hZ (hw _ (List.mem_of_getElem? (i := 42) rfl))) (mvT hZ (hw _ (List.mem_of_getElem? (i := 41) rfl))) (by decide) (own_backN (W := 1) (rm_cod l Z a0 hw [] a1 cz h0 n0 Z0 OL C1 SC hcz) hZ (hw _ (List.mem_of_getElem? (i := 43) rfl)) (hw _ (List.mem_of_getElem? (i := 11) rfl)) (by decide) (by decide)) q168a q168c (g := (mkF m 6 #[.val (.ref a1)] [(.ref a1), (.int (Int32.ofNat bs.length))])) rfl (by rw [hml]; rfl) (Steps.refl _) (argsL := []) (rest := [(.int (Int32.ofNat bs.length))]) (lenOf len_pd0 rfl) rfl (by show 2 * 0 + _ ≤ _; exact Nat.le_of_eq rfl) (hb hby len_d6) (fun _ _ => ⟨rfl, e166, Nat.le_of_ble_eq_true rfl, Nat.le_of_ble_eq_true rfl⟩)
  dsimp only [Pt.U, Pt.locs, Pt.cells, Pt.slots] at X168 l168 y168 z168 st168 hQ168
  subst l168 y168 z168
  obtain ⟨rfl, N168q, hh168⟩ := hQ168
  refine own_seq st168 ?_
  have N168 := Fr.app N0 N168q
  show OwnGo p e below (T168.setTop (mkF m 9 #[.val (.ref a1)] [(.int (0 : Int32)), (.int (Int32.ofNat bs.length))])) _
  refine own_back (fun t k => XS.ishr X168.here hx rfl (hb hby len_d9) rfl k) ?_
  show OwnGo p e below (T168.setTop (mkF m 10 #[.val (.ref a1)] [(.int ((Int32.ofNat bs.length) >>> ((0 : Int32) &&& 31)))])) _
  refine own_retI X168 hx Bd.notSynchronized Bd.returns (hb hby len_d10) hh168 (Nat.le_of_ble_eq_true rfl) (Nat.le_of_ble_eq_true rfl) ?_
  exact ⟨congrArg (fun z => some (Value.int z)) (own_shr0 _), N168, rfl⟩
theorem ci3_d0 : decode jdk_41_method_11_code 0 = .ok (.iload_n 0, 1) := by decide +kernel
theorem ci3_d1 : decode jdk_41_method_11_code 1 = .ok (.ifCond .lt 8, 3) := by decide +kernel
theorem ci3_d4 : decode jdk_41_method_11_code 4 = .ok (.iload_n 0, 1) := by decide +kernel
theorem ci3_d5 : decode jdk_41_method_11_code 5 = .ok (.iload_n 1, 1) := by decide +kernel
theorem ci3_d6 : decode jdk_41_method_11_code 6 = .ok (.if_icmp .lt 10, 3) := by decide +kernel
theorem ci3_d16 : decode jdk_41_method_11_code 16 = .ok (.iload_n 0, 1) := by decide +kernel
theorem ci3_d17 : decode jdk_41_method_11_code 17 = .ok (.ireturn, 1) := by decide +kernel
theorem ci3_pn : plainName "jdk/internal/util/Preconditions" = true := by first | (simp [plainName, overriddenIn]; done) | decide +kernel
theorem ci3_ef (m : MethodId) (x0 : Int32) (x1 : Int32) (x2 : Value) (hx2 : x2.isRef = true) : entryFrame m #[(.int x0), (.int x1), x2] 3 = mkF m 0 #[.val (.int x0), .val (.int x1), .val x2] [] := by cases x2 <;> first | (exact absurd hx2 Bool.false_ne_true) | (simp [entryFrame, mkF, argsToLocals, Value.category]; done) | rfl
set_option maxRecDepth 65536 in
set_option maxHeartbeats 40000000 in
theorem rm_ci3 (l : Launch) (Z : State) (a0 : Array Value) (hw : ∀ d ∈ tables_1, d.before a0 Z = true) (ws : List Jvm.Cond) (x1 : Int32) (x2 : Int32) (fm : Value) (hfm : fm.isRef = true) (h0 : Heap) (n0 : Nat) (Z0 : n0 ≤ h0.size) (h1 : ¬ x1 < 0) (h2 : x1 < x2) :
    MetFree l (⟨"jdk/internal/util/Preconditions", "checkIndex", "(IILjava/util/function/BiFunction;)I"⟩ : MethodName) (head1 (Jvm.Cond.code (⟨"jdk/internal/util/Preconditions", "checkIndex", "(IILjava/util/function/BiFunction;)I"⟩ : MethodName) jdk_41_method_11_code 3 (some .int) :: ws) ({ frames := 0, cells := 0, slots := 0, locals := 0 } : Room)) (fun a U => a = #[(.int x1), (.int x2), fm] ∧ Z.Warmed39 U.vm ∧ U.heap = h0) (fun _ _ _ _ _ => True) (fun _ U o U' => OwnEnd U (fun v h L => v = some (.int x1) ∧ Fr n0 L ∧ h = h0) ({ frames := 0, cells := 0, slots := 0, locals := 0 } : Room).cells ({ frames := 0, cells := 0, slots := 0, locals := 0 } : Room).slots o U') := by
  refine MetFree.of_bodySF (plainFor_of_name ci3_pn) hisR ?_
  intro p e s m args below meth c s₁ Bd hml0 hP hK
  obtain ⟨rfl, hZ, hh⟩ := hP
  have hx := Bd.exec
  have hby := Bd.bytes
  have hml : c.maxLocals = 3 := hml0
  have hown : s.vm.findClass "jdk/internal/util/Preconditions" = some m.cls := findClass_of_methodNamed Bd.named
  have hnm := (name_of_methodNamed Bd.named Bd.method).1
  have X0 : Stand p l e ({ frames := 0, cells := 0, slots := 0, locals := 0 } : Room) s m #[(.int x1), (.int x2), fm] below meth c s₁ [] 0 0 := Stand.of_body Bd
  have e0 : s₁.heap = h0 := by rw [← hh, Bd.state]; rfl
  have N0 := Fr.nil n0
  have KP0 := Keep.refl h0 []
  refine own_go (Q := (OwnEnd s (fun v h L => v = some (.int x1) ∧ Fr n0 L ∧ h = h0) ({ frames := 0, cells := 0, slots := 0, locals := 0 } : Room).cells ({ frames := 0, cells := 0, slots := 0, locals := 0 } : Room).slots)) ?_
  refine own_back (fun t k => castTop (ci3_ef m x1 x2 fm hfm) k) ?_
  show OwnGo p e below (s₁.setTop (mkF m 0 #[.val (.int x1), .val (.int x2), .val fm] [])) _
  refine own_back (fun t k => XS.iloadN X0.here hx rfl (hb hby ci3_d0) rfl k) ?_
  show OwnGo p e below (s₁.setTop (mkF m 1 #[.val (.int x1), .val (.int x2), .val fm] [(.int x1)])) _
  refine own_back (fun t k => XS.ifNo X0.here hx rfl (hb hby ci3_d1) rfl (Jvm.Free.XT.i0_lt_f h1) k) ?_
  show OwnGo p e below (s₁.setTop (mkF m 4 #[.val (.int x1), .val (.int x2), .val fm] [])) _
  refine own_back (fun t k => XS.iloadN X0.here hx rfl (hb hby ci3_d4) rfl k) ?_
  show OwnGo p e below (s₁.setTop (mkF m 5 #[.val (.int x1), .val (.int x2), .val fm] [(.int x1)])) _
  refine own_back (fun t k => XS.iloadN X0.here hx rfl (hb hby ci3_d5) rfl k) ?_
  show OwnGo p e below (s₁.setTop (mkF m 6 #[.val (.int x1), .val (.int x2), .val fm] [(.int x2), (.int x1)])) _
  refine own_back (fun t k => XS.icmpYes X0.here hx rfl (pc0 := 6) (pc' := 16) rfl (hb hby ci3_d6) rfl (Jvm.Free.XT.ii_lt_t h2) (by decide) (by decide) k) ?_
  show OwnGo p e below (s₁.setTop (mkF m 16 #[.val (.int x1), .val (.int x2), .val fm] [])) _
  refine own_back (fun t k => XS.iloadN X0.here hx rfl (hb hby ci3_d16) rfl k) ?_
  show OwnGo p e below (s₁.setTop (mkF m 17 #[.val (.int x1), .val (.int x2), .val fm] [(.int x1)])) _
  refine own_retI X0 hx Bd.notSynchronized Bd.returns (hb hby ci3_d17) e0 (Nat.le_of_ble_eq_true rfl) (Nat.le_of_ble_eq_true rfl) ?_
  exact ⟨rfl, N0, rfl⟩
theorem ci2_d0 : decode jdk_42_method_155_code 0 = .ok (.iload_n 0, 1) := by decide +kernel
theorem ci2_d1 : decode jdk_42_method_155_code 1 = .ok (.iload_n 1, 1) := by decide +kernel
theorem ci2_d2 : decode jdk_42_method_155_code 2 = .ok (.getstatic 1053, 3) := by decide +kernel
theorem ci2_d5 : decode jdk_42_method_155_code 5 = .ok (.invokestatic 1059, 3) := by decide +kernel
theorem ci2_d8 : decode jdk_42_method_155_code 8 = .ok (.pop, 1) := by decide +kernel
theorem ci2_d9 : decode jdk_42_method_155_code 9 = .ok (.return_, 1) := by decide +kernel
theorem ci2_pn : plainName "java/lang/String" = true := by first | (simp [plainName, overriddenIn]; done) | decide +kernel
theorem ci2_pd0 : parseMethodDescriptor "(IILjava/util/function/BiFunction;)I" = some ⟨[.int, .int, (.object "java/util/function/BiFunction")], some .int⟩ := by decide +kernel
theorem ci2_ef (m : MethodId) (x0 : Int32) (x1 : Int32) : entryFrame m #[(.int x0), (.int x1)] 2 = mkF m 0 #[.val (.int x0), .val (.int x1)] [] := by first | (simp [entryFrame, mkF, argsToLocals, Value.category]; done) | rfl
set_option maxRecDepth 65536 in
set_option maxHeartbeats 40000000 in
theorem rm_ci2 (l : Launch) (Z : State) (a0 : Array Value) (hw : ∀ d ∈ tables_1, d.before a0 Z = true) (ws : List Jvm.Cond) (x1 : Int32) (x2 : Int32) (cz : Int32) (fm : Value) (h0 : Heap) (n0 : Nat) (Z0 : n0 ≤ h0.size) (OL : Old Z n0 h0) (h1 : ¬ x1 < 0) (h2 : x1 < x2) (SC : Sta Z Z.heap "java/lang/String" "COMPACT_STRINGS" "Z" (.int cz)) (hcz : ¬ cz = 0) (SO : Sta Z Z.heap "jdk/internal/util/Preconditions" "SIOOBE_FORMATTER" "Ljava/util/function/BiFunction;" fm) (hfm : fm.isRef = true) :
    MetFree l (⟨"java/lang/String", "checkIndex", "(II)V"⟩ : MethodName) (head1 (Jvm.Cond.code (⟨"java/lang/String", "checkIndex", "(II)V"⟩ : MethodName) jdk_42_method_155_code 2 none :: ws) ({ frames := 1, cells := 0, slots := 0, locals := 20 } : Room)) (fun a U => a = #[(.int x1), (.int x2)] ∧ Z.Warmed39 U.vm ∧ U.heap = h0) (fun _ _ _ _ _ => True) (fun _ U o U' => OwnEnd U (fun v h L => v = none ∧ Fr n0 L ∧ h = h0) ({ frames := 1, cells := 0, slots := 0, locals := 20 } : Room).cells ({ frames := 1, cells := 0, slots := 0, locals := 20 } : Room).slots o U') := by
  refine MetFree.of_bodySF (plainFor_of_name ci2_pn) hisR ?_
  intro p e s m args below meth c s₁ Bd hml0 hP hK
  obtain ⟨rfl, hZ, hh⟩ := hP
  have hx := Bd.exec
  have hby := Bd.bytes
  have hml : c.maxLocals = 2 := hml0
  have hown : s.vm.findClass "java/lang/String" = some m.cls := findClass_of_methodNamed Bd.named
  have hnm := (name_of_methodNamed Bd.named Bd.method).1
  have X0 : Stand p l e ({ frames := 1, cells := 0, slots := 0, locals := 20 } : Room) s m #[(.int x1), (.int x2)] below meth c s₁ [] 0 0 := Stand.of_body Bd
  have e0 : s₁.heap = h0 := by rw [← hh, Bd.state]; rfl
  have N0 := Fr.nil n0
  have KP0 := Keep.refl h0 []
  refine own_go (Q := (OwnEnd s (fun v h L => v = none ∧ Fr n0 L ∧ h = h0) ({ frames := 1, cells := 0, slots := 0, locals := 20 } : Room).cells ({ frames := 1, cells := 0, slots := 0, locals := 20 } : Room).slots)) ?_
  refine own_back (fun t k => castTop (ci2_ef m x1 x2) k) ?_
  show OwnGo p e below (s₁.setTop (mkF m 0 #[.val (.int x1), .val (.int x2)] [])) _
  refine own_back (fun t k => XS.iloadN X0.here hx rfl (hb hby ci2_d0) rfl k) ?_
  show OwnGo p e below (s₁.setTop (mkF m 1 #[.val (.int x1), .val (.int x2)] [(.int x1)])) _
  refine own_back (fun t k => XS.iloadN X0.here hx rfl (hb hby ci2_d1) rfl k) ?_
  show OwnGo p e below (s₁.setTop (mkF m 2 #[.val (.int x1), .val (.int x2)] [(.int x2), (.int x1)])) _
  obtain ⟨T169, X169, e169, st169⟩ := getS2 X0 hx hZ hown (host := "") (Or.inl (hw _ (List.mem_of_getElem? (i := 54) rfl))) Via.refl e0 (SO.ext OL.2) (g := (mkF m 2 #[.val (.int x1), .val (.int x2)] [(.int x2), (.int x1)])) rfl (hb hby ci2_d2)
  refine own_back st169 ?_
  show OwnGo p e below (T169.setTop (mkF m 5 #[.val (.int x1), .val (.int x2)] [fm, (.int x2), (.int x1)])) _
  obtain ⟨_, _, ⟨T170, L170, k170, n170⟩, -, X170, ⟨Lc170, hQ170, l170, y170, z170⟩, st170⟩ := Jvm.LawKit.callS X169 hx (y := (⟨"jdk/internal/util/Preconditions", "checkIndex", "(IILjava/util/function/BiFunction;)I"⟩ : MethodName)) hown (mvT hZ (hw _ (List.mem_of_getElem? (i := 90) rfl))) (mvT hZ (hw _ (List.mem_of_getElem? (i := 91) rfl))) (mvT hZ (hw _ (List.mem_of_getElem? (i := 55) rfl))) (mvT hZ (hw _ (List.mem_of_getElem? (i := 92) rfl))) (by decide) (own_backN (W := 0) (rm_ci3 l Z a0 hw [] x1 x2 fm hfm h0 n0 Z0 h1 h2) hZ (hw _ (List.mem_of_getElem? (i := 92) rfl)) (hw _ (List.mem_of_getElem? (i := 55) rfl)) (by decide) (by decide)) (g := (mkF m 5 #[.val (.int x1), .val (.int x2)] [fm, (.int x2), (.int x1)])) rfl (by rw [hml]; rfl) (argsL := [(.int x1), (.int x2), fm]) (rest := []) (lenOf ci2_pd0 rfl) rfl (by show 2 * 0 + _ ≤ _; exact Nat.le_of_eq rfl) (hb hby ci2_d5) (fun _ _ => ⟨rfl, e169, Nat.le_of_ble_eq_true rfl, Nat.le_of_ble_eq_true rfl⟩)
  dsimp only [Pt.U, Pt.locs, Pt.cells, Pt.slots] at X170 l170 y170 z170 st170 hQ170
  subst l170 y170 z170
  obtain ⟨rfl, N170q, hh170⟩ := hQ170
  refine own_back st170 ?_
  have N170 := Fr.app N0 N170q
  show OwnGo p e below (T170.setTop (mkF m 8 #[.val (.int x1), .val (.int x2)] [(.int x1)])) _
  refine own_back (fun t k => XS.pop X170.here hx rfl (hb hby ci2_d8) rfl rfl k) ?_
  show OwnGo p e below (T170.setTop (mkF m 9 #[.val (.int x1), .val (.int x2)] [])) _
  refine own_retV X170 hx Bd.notSynchronized Bd.returns (hb hby ci2_d9) hh170 (Nat.le_of_ble_eq_true rfl) (Nat.le_of_ble_eq_true rfl) ?_
  exact ⟨rfl, N170, rfl⟩
theorem lch_d0 : decode jdk_43_method_2_code 0 = .ok (.iload_n 1, 1) := by decide +kernel
theorem lch_d1 : decode jdk_43_method_2_code 1 = .ok (.aload_n 0, 1) := by decide +kernel
theorem lch_d2 : decode jdk_43_method_2_code 2 = .ok (.arraylength, 1) := by decide +kernel
theorem lch_d3 : decode jdk_43_method_2_code 3 = .ok (.invokestatic 9, 3) := by decide +kernel
theorem lch_d6 : decode jdk_43_method_2_code 6 = .ok (.aload_n 0, 1) := by decide +kernel
theorem lch_d7 : decode jdk_43_method_2_code 7 = .ok (.iload_n 1, 1) := by decide +kernel
theorem lch_d8 : decode jdk_43_method_2_code 8 = .ok (.baload, 1) := by decide +kernel
theorem lch_d9 : decode jdk_43_method_2_code 9 = .ok (.sipush 255, 3) := by decide +kernel
theorem lch_d12 : decode jdk_43_method_2_code 12 = .ok (.iand, 1) := by decide +kernel
theorem lch_d13 : decode jdk_43_method_2_code 13 = .ok (.i2c, 1) := by decide +kernel
theorem lch_d14 : decode jdk_43_method_2_code 14 = .ok (.ireturn, 1) := by decide +kernel
theorem lch_pn : plainName "java/lang/StringLatin1" = true := by first | (simp [plainName, overriddenIn]; done) | decide +kernel
theorem lch_pd0 : parseMethodDescriptor "(II)V" = some ⟨[.int, .int], none⟩ := by decide +kernel
theorem lch_ef (m : MethodId) (x0 : Addr) (x1 : Int32) : entryFrame m #[(.ref x0), (.int x1)] 2 = mkF m 0 #[.val (.ref x0), .val (.int x1)] [] := by first | (simp [entryFrame, mkF, argsToLocals, Value.category]; done) | rfl
set_option maxRecDepth 65536 in
set_option maxHeartbeats 40000000 in
theorem rm_lch (l : Launch) (Z : State) (a0 : Array Value) (hw : ∀ d ∈ tables_1, d.before a0 Z = true) (ws : List Jvm.Cond) (t1 : Addr) (k1 : ClassId) (bs : List Int32) (i : Nat) (cz : Int32) (fm : Value) (h0 : Heap) (n0 : Nat) (Z0 : n0 ≤ h0.size) (OL : Old Z n0 h0) (V1 : Arv Z h0 t1 k1 .byte (Int32.ofNat bs.length) (bs.map Value.int) (.int 0)) (m1 : bs.length ≤ 4000) (hi : i < bs.length) (SC : Sta Z Z.heap "java/lang/String" "COMPACT_STRINGS" "Z" (.int cz)) (hcz : ¬ cz = 0) (SO : Sta Z Z.heap "jdk/internal/util/Preconditions" "SIOOBE_FORMATTER" "Ljava/util/function/BiFunction;" fm) (hfm : fm.isRef = true) :
    MetFree l (⟨"java/lang/StringLatin1", "charAt", "([BI)C"⟩ : MethodName) (head1 (Jvm.Cond.code (⟨"java/lang/StringLatin1", "charAt", "([BI)C"⟩ : MethodName) jdk_43_method_2_code 2 (some .char) :: ws) ({ frames := 2, cells := 0, slots := 0, locals := 40 } : Room)) (fun a U => a = #[(.ref t1), (.int (Int32.ofNat i))] ∧ Z.Warmed39 U.vm ∧ U.heap = h0) (fun _ _ _ _ _ => True) (fun _ U o U' => OwnEnd U (fun v h L => v = some (.int (own_ch (bs.getD i 0))) ∧ Fr n0 L ∧ h = h0) ({ frames := 2, cells := 0, slots := 0, locals := 40 } : Room).cells ({ frames := 2, cells := 0, slots := 0, locals := 40 } : Room).slots o U') := by
  refine MetFree.of_bodySF (plainFor_of_name lch_pn) hisR ?_
  intro p e s m args below meth c s₁ Bd hml0 hP hK
  obtain ⟨rfl, hZ, hh⟩ := hP
  have hx := Bd.exec
  have hby := Bd.bytes
  have hml : c.maxLocals = 2 := hml0
  have hown : s.vm.findClass "java/lang/StringLatin1" = some m.cls := findClass_of_methodNamed Bd.named
  have hnm := (name_of_methodNamed Bd.named Bd.method).1
  have X0 : Stand p l e ({ frames := 2, cells := 0, slots := 0, locals := 40 } : Room) s m #[(.ref t1), (.int (Int32.ofNat i))] below meth c s₁ [] 0 0 := Stand.of_body Bd
  have e0 : s₁.heap = h0 := by rw [← hh, Bd.state]; rfl
  have N0 := Fr.nil n0
  have KP0 := Keep.refl h0 []
  refine own_go (Q := (OwnEnd s (fun v h L => v = some (.int (own_ch (bs.getD i 0))) ∧ Fr n0 L ∧ h = h0) ({ frames := 2, cells := 0, slots := 0, locals := 40 } : Room).cells ({ frames := 2, cells := 0, slots := 0, locals := 40 } : Room).slots)) ?_
  refine own_back (fun t k => castTop (lch_ef m t1 (Int32.ofNat i)) k) ?_
  show OwnGo p e below (s₁.setTop (mkF m 0 #[.val (.ref t1), .val (.int (Int32.ofNat i))] [])) _
  refine own_back (fun t k => XS.iloadN X0.here hx rfl (hb hby lch_d0) rfl k) ?_
  show OwnGo p e below (s₁.setTop (mkF m 1 #[.val (.ref t1), .val (.int (Int32.ofNat i))] [(.int (Int32.ofNat i))])) _
  refine own_back (fun t k => XS.aloadN X0.here hx rfl (hb hby lch_d1) rfl rfl k) ?_
  show OwnGo p e below (s₁.setTop (mkF m 2 #[.val (.ref t1), .val (.int (Int32.ofNat i))] [(.ref t1), (.int (Int32.ofNat i))])) _
  obtain ⟨c171, A171, q171, S171, M171, H171, U171⟩ := id V1
  refine own_back (fun t k => X0.arraylength hx (own_hat e0 A171.1) (State.isArrayOf_alike hZ.alike A171.2.1) (g := (mkF m 2 #[.val (.ref t1), .val (.int (Int32.ofNat i))] [(.ref t1), (.int (Int32.ofNat i))])) rfl rfl (hb hby lch_d2) t k) ?_
  rw [len_of S171 M171]
  show OwnGo p e below (s₁.setTop (mkF m 3 #[.val (.ref t1), .val (.int (Int32.ofNat i))] [(.int (Int32.ofNat bs.length)), (.int (Int32.ofNat i))])) _
  obtain ⟨_, _, ⟨T172, L172, k172, n172⟩, -, X172, ⟨Lc172, hQ172, l172, y172, z172⟩, st172⟩ := Jvm.LawKit.callS X0 hx (y := (⟨"java/lang/String", "checkIndex", "(II)V"⟩ : MethodName)) hown (mvT hZ (hw _ (List.mem_of_getElem? (i := 87) rfl))) (mvT hZ (hw _ (List.mem_of_getElem? (i := 88) rfl))) (mvT hZ (hw _ (List.mem_of_getElem? (i := 11) rfl))) (mvT hZ (hw _ (List.mem_of_getElem? (i := 89) rfl))) (by decide) (own_backN (W := 0) (rm_ci2 l Z a0 hw [] (Int32.ofNat i) (Int32.ofNat bs.length) cz fm h0 n0 Z0 OL (own_nn (by omega)) (own_lti (by omega) hi) SC hcz SO hfm) hZ (hw _ (List.mem_of_getElem? (i := 89) rfl)) (hw _ (List.mem_of_getElem? (i := 11) rfl)) (by decide) (by decide)) (g := (mkF m 3 #[.val (.ref t1), .val (.int (Int32.ofNat i))] [(.int (Int32.ofNat bs.length)), (.int (Int32.ofNat i))])) rfl (by rw [hml]; rfl) (argsL := [(.int (Int32.ofNat i)), (.int (Int32.ofNat bs.length))]) (rest := []) (lenOf lch_pd0 rfl) rfl (by show 2 * 0 + _ ≤ _; exact Nat.le_of_eq rfl) (hb hby lch_d3) (fun _ _ => ⟨rfl, e0, Nat.le_of_ble_eq_true rfl, Nat.le_of_ble_eq_true rfl⟩)
  dsimp only [Pt.U, Pt.locs, Pt.cells, Pt.slots] at X172 l172 y172 z172 st172 hQ172
  subst l172 y172 z172
  obtain ⟨rfl, N172q, hh172⟩ := hQ172
  refine own_back st172 ?_
  have N172 := Fr.app N0 N172q
  show OwnGo p e below (T172.setTop (mkF m 6 #[.val (.ref t1), .val (.int (Int32.ofNat i))] [])) _
  refine own_back (fun t k => XS.aloadN X172.here hx rfl (hb hby lch_d6) rfl rfl k) ?_
  show OwnGo p e below (T172.setTop (mkF m 7 #[.val (.ref t1), .val (.int (Int32.ofNat i))] [(.ref t1)])) _
  refine own_back (fun t k => XS.iloadN X172.here hx rfl (hb hby lch_d7) rfl k) ?_
  show OwnGo p e below (T172.setTop (mkF m 8 #[.val (.ref t1), .val (.int (Int32.ofNat i))] [(.int (Int32.ofNat i)), (.ref t1)])) _
  obtain ⟨c173, A173, q173, S173, M173, H173, U173⟩ := id V1
  have ib174 : ¬ ((Int32.ofNat i) < 0 ∨ c173.slots.size ≤ ((Int32.ofNat i)).toNatClampNeg) := (inb_of S173 ⟨own_nn (by omega), own_lti (by omega) hi⟩)
  refine own_back (fun t k => X172.baloadBytes hx (j := (Int32.ofNat i)) (v := (.int (bs.getD i 0))) (own_hat hh172 A173.1) (State.isArrayOf_alike hZ.alike A173.2.1) A173.2.2 ib174 (H173.at ib174 (own_mapget bs i (by omega))) (g := (mkF m 8 #[.val (.ref t1), .val (.int (Int32.ofNat i))] [(.int (Int32.ofNat i)), (.ref t1)])) rfl rfl (hb hby lch_d8) t k) ?_
  show OwnGo p e below (T172.setTop (mkF m 9 #[.val (.ref t1), .val (.int (Int32.ofNat i))] [(.int (bs.getD i 0))])) _
  refine own_back (fun t k => XS.sipush X172.here hx rfl (hb hby lch_d9) k) ?_
  show OwnGo p e below (T172.setTop (mkF m 12 #[.val (.ref t1), .val (.int (Int32.ofNat i))] [(.int (255 : Int32)), (.int (bs.getD i 0))])) _
  refine own_back (fun t k => XS.iand X172.here hx rfl (hb hby lch_d12) rfl k) ?_
  show OwnGo p e below (T172.setTop (mkF m 13 #[.val (.ref t1), .val (.int (Int32.ofNat i))] [(.int ((bs.getD i 0) &&& (255 : Int32)))])) _
  refine own_back (fun t k => XS.i2c X172.here hx rfl (hb hby lch_d13) rfl k) ?_
  show OwnGo p e below (T172.setTop (mkF m 14 #[.val (.ref t1), .val (.int (Int32.ofNat i))] [(.int ((bs.getD i 0) &&& (255 : Int32)).toUInt32.toUInt16.toUInt32.toInt32)])) _
  refine own_retN X172 hx Bd.notSynchronized (t := .char) (z := ((bs.getD i 0) &&& (255 : Int32)).toUInt32.toUInt16.toUInt32.toInt32) Bd.returns (by simp) (own_narch _) (hb hby lch_d14) hh172 (Nat.le_of_ble_eq_true rfl) (Nat.le_of_ble_eq_true rfl) ?_
  exact ⟨rfl, N172, rfl⟩
theorem ch_d0 : decode jdk_42_method_56_code 0 = .ok (.aload_n 0, 1) := by decide +kernel
theorem ch_d1 : decode jdk_42_method_56_code 1 = .ok (.invokevirtual 492, 3) := by decide +kernel
theorem ch_d4 : decode jdk_42_method_56_code 4 = .ok (.ifCond .eq 12, 3) := by decide +kernel
theorem ch_d7 : decode jdk_42_method_56_code 7 = .ok (.aload_n 0, 1) := by decide +kernel
theorem ch_d8 : decode jdk_42_method_56_code 8 = .ok (.getfield 9, 3) := by decide +kernel
theorem ch_d11 : decode jdk_42_method_56_code 11 = .ok (.iload_n 1, 1) := by decide +kernel
theorem ch_d12 : decode jdk_42_method_56_code 12 = .ok (.invokestatic 495, 3) := by decide +kernel
theorem ch_d15 : decode jdk_42_method_56_code 15 = .ok (.ireturn, 1) := by decide +kernel
theorem ch_pn : plainName "java/lang/String" = true := by first | (simp [plainName, overriddenIn]; done) | decide +kernel
theorem ch_pd0 : parseMethodDescriptor "()Z" = some ⟨[], some .boolean⟩ := by decide +kernel
theorem ch_pd1 : parseMethodDescriptor "([BI)C" = some ⟨[(.array .byte), .int], some .char⟩ := by decide +kernel
theorem ch_ef (m : MethodId) (x0 : Addr) (x1 : Int32) : entryFrame m #[(.ref x0), (.int x1)] 2 = mkF m 0 #[.val (.ref x0), .val (.int x1)] [] := by first | (simp [entryFrame, mkF, argsToLocals, Value.category]; done) | rfl
set_option maxRecDepth 65536 in
set_option maxHeartbeats 40000000 in
theorem rm_ch (l : Launch) (Z : State) (a0 : Array Value) (hw : ∀ d ∈ tables_1, d.before a0 Z = true) (ws : List Jvm.Cond) (a1 : Addr) (bs : List Int32) (i : Nat) (cz : Int32) (fm : Value) (h0 : Heap) (n0 : Nat) (Z0 : n0 ≤ h0.size) (OL : Old Z n0 h0) (B1 : OwnStr Z h0 a1 bs) (hi : i < bs.length) (SC : Sta Z Z.heap "java/lang/String" "COMPACT_STRINGS" "Z" (.int cz)) (hcz : ¬ cz = 0) (SO : Sta Z Z.heap "jdk/internal/util/Preconditions" "SIOOBE_FORMATTER" "Ljava/util/function/BiFunction;" fm) (hfm : fm.isRef = true) :
    MetFree l (⟨"java/lang/String", "charAt", "(I)C"⟩ : MethodName) (head1 (Jvm.Cond.code (⟨"java/lang/String", "charAt", "(I)C"⟩ : MethodName) jdk_42_method_56_code 2 (some .char) :: ws) ({ frames := 3, cells := 0, slots := 0, locals := 60 } : Room)) (fun a U => a = #[(.ref a1), (.int (Int32.ofNat i))] ∧ Z.Warmed39 U.vm ∧ U.heap = h0) (fun _ _ _ _ _ => True) (fun _ U o U' => OwnEnd U (fun v h L => v = some (.int (own_ch (bs.getD i 0))) ∧ Fr n0 L ∧ h = h0) ({ frames := 3, cells := 0, slots := 0, locals := 60 } : Room).cells ({ frames := 3, cells := 0, slots := 0, locals := 60 } : Room).slots o U') := by
  refine MetFree.of_bodySF (plainFor_of_name ch_pn) hisR ?_
  intro p e s m args below meth c s₁ Bd hml0 hP hK
  obtain ⟨rfl, hZ, hh⟩ := hP
  have hx := Bd.exec
  have hby := Bd.bytes
  have hml : c.maxLocals = 2 := hml0
  have hown : s.vm.findClass "java/lang/String" = some m.cls := findClass_of_methodNamed Bd.named
  have hnm := (name_of_methodNamed Bd.named Bd.method).1
  have X0 : Stand p l e ({ frames := 3, cells := 0, slots := 0, locals := 60 } : Room) s m #[(.ref a1), (.int (Int32.ofNat i))] below meth c s₁ [] 0 0 := Stand.of_body Bd
  have e0 : s₁.heap = h0 := by rw [← hh, Bd.state]; rfl
  have N0 := Fr.nil n0
  have KP0 := Keep.refl h0 []
  refine own_go (Q := (OwnEnd s (fun v h L => v = some (.int (own_ch (bs.getD i 0))) ∧ Fr n0 L ∧ h = h0) ({ frames := 3, cells := 0, slots := 0, locals := 60 } : Room).cells ({ frames := 3, cells := 0, slots := 0, locals := 60 } : Room).slots)) ?_
  refine own_back (fun t k => castTop (ch_ef m a1 (Int32.ofNat i)) k) ?_
  show OwnGo p e below (s₁.setTop (mkF m 0 #[.val (.ref a1), .val (.int (Int32.ofNat i))] [])) _
  obtain ⟨t1, k1, E1, C1, F1, V1, m1⟩ := id B1
  refine own_back (fun t k => XS.aloadN X0.here hx rfl (hb hby ch_d0) rfl rfl k) ?_
  show OwnGo p e below (s₁.setTop (mkF m 1 #[.val (.ref a1), .val (.int (Int32.ofNat i))] [(.ref a1)])) _
  obtain ⟨cq175, kq175, q175a, q175b, q175c⟩ := isOf hZ e0 E1
  obtain ⟨_, _, ⟨T175, L175, k175, n175⟩, -, X175, ⟨Lc175, hQ175, l175, y175, z175⟩, st175⟩ := X0.virtualBack hx (y := (⟨"java/lang/String", "isLatin1", "()Z"⟩ : MethodName)) (z := (⟨"java/lang/String", "isLatin1", "()Z"⟩ : MethodName)) hown (mvT hZ (hw _ (List.mem_of_getElem? (i := 78) rfl))) (mvT hZ (hw _ (List.mem_of_getElem? (i := 79) rfl))) (notFace_of_selects (args := #[]) (mvT hZ (hw _ (List.mem_of_getElem? (i := 81) rfl)))) (mvT hZ (hw _ (List.mem_of_getElem? (i := 81) rfl))) (mvT hZ (hw _ (List.mem_of_getElem? (i := 80) rfl))) (by decide) (own_backN (W := 0) (rm_isL l Z a0 hw [] a1 cz h0 n0 Z0 OL C1 SC hcz) hZ (hw _ (List.mem_of_getElem? (i := 82) rfl)) (hw _ (List.mem_of_getElem? (i := 11) rfl)) (by decide) (by decide)) q175a q175c (g := (mkF m 1 #[.val (.ref a1), .val (.int (Int32.ofNat i))] [(.ref a1)])) rfl (by rw [hml]; rfl) (Steps.refl _) (argsL := []) (rest := []) (lenOf ch_pd0 rfl) rfl (by show 2 * 0 + _ ≤ _; exact Nat.le_of_eq rfl) (hb hby ch_d1) (fun _ _ => ⟨rfl, e0, Nat.le_of_ble_eq_true rfl, Nat.le_of_ble_eq_true rfl⟩)
  dsimp only [Pt.U, Pt.locs, Pt.cells, Pt.slots] at X175 l175 y175 z175 st175 hQ175
  subst l175 y175 z175
  obtain ⟨rfl, N175q, hh175⟩ := hQ175
  refine own_seq st175 ?_
  have N175 := Fr.app N0 N175q
  show OwnGo p e below (T175.setTop (mkF m 4 #[.val (.ref a1), .val (.int (Int32.ofNat i))] [(.int (1 : Int32))])) _
  refine own_back (fun t k => XS.ifNo X175.here hx rfl (hb hby ch_d4) rfl (Jvm.Free.XT.i0_eq_f (by decide)) k) ?_
  show OwnGo p e below (T175.setTop (mkF m 7 #[.val (.ref a1), .val (.int (Int32.ofNat i))] [])) _
  refine own_back (fun t k => XS.aloadN X175.here hx rfl (hb hby ch_d7) rfl rfl k) ?_
  show OwnGo p e below (T175.setTop (mkF m 8 #[.val (.ref a1), .val (.int (Int32.ofNat i))] [(.ref a1)])) _
  obtain ⟨T176, X176, e176, st176⟩ := getF X175 hx hZ hown (host := "") (Or.inl (hw _ (List.mem_of_getElem? (i := 28) rfl))) Via.refl hh175 F1 (g := (mkF m 8 #[.val (.ref a1), .val (.int (Int32.ofNat i))] [(.ref a1)])) rfl rfl (hb hby ch_d8)
  refine own_back st176 ?_
  show OwnGo p e below (T176.setTop (mkF m 11 #[.val (.ref a1), .val (.int (Int32.ofNat i))] [(.ref t1)])) _
  refine own_back (fun t k => XS.iloadN X176.here hx rfl (hb hby ch_d11) rfl k) ?_
  show OwnGo p e below (T176.setTop (mkF m 12 #[.val (.ref a1), .val (.int (Int32.ofNat i))] [(.int (Int32.ofNat i)), (.ref t1)])) _
  obtain ⟨_, _, ⟨T177, L177, k177, n177⟩, -, X177, ⟨Lc177, hQ177, l177, y177, z177⟩, st177⟩ := Jvm.LawKit.callS X176 hx (y := (⟨"java/lang/StringLatin1", "charAt", "([BI)C"⟩ : MethodName)) hown (mvT hZ (hw _ (List.mem_of_getElem? (i := 83) rfl))) (mvT hZ (hw _ (List.mem_of_getElem? (i := 84) rfl))) (mvT hZ (hw _ (List.mem_of_getElem? (i := 85) rfl))) (mvT hZ (hw _ (List.mem_of_getElem? (i := 86) rfl))) (by decide) (own_backN (W := 0) (rm_lch l Z a0 hw [] t1 k1 bs i cz fm h0 n0 Z0 OL V1 m1 hi SC hcz SO hfm) hZ (hw _ (List.mem_of_getElem? (i := 86) rfl)) (hw _ (List.mem_of_getElem? (i := 85) rfl)) (by decide) (by decide)) (g := (mkF m 12 #[.val (.ref a1), .val (.int (Int32.ofNat i))] [(.int (Int32.ofNat i)), (.ref t1)])) rfl (by rw [hml]; rfl) (argsL := [(.ref t1), (.int (Int32.ofNat i))]) (rest := []) (lenOf ch_pd1 rfl) rfl (by show 2 * 0 + _ ≤ _; exact Nat.le_of_eq rfl) (hb hby ch_d12) (fun _ _ => ⟨rfl, e176, Nat.le_of_ble_eq_true rfl, Nat.le_of_ble_eq_true rfl⟩)
  dsimp only [Pt.U, Pt.locs, Pt.cells, Pt.slots] at X177 l177 y177 z177 st177 hQ177
  subst l177 y177 z177
  obtain ⟨rfl, N177q, hh177⟩ := hQ177
  refine own_back st177 ?_
  have N177 := Fr.app N175 N177q
  show OwnGo p e below (T177.setTop (mkF m 15 #[.val (.ref a1), .val (.int (Int32.ofNat i))] [(.int (own_ch (bs.getD i 0)))])) _
  refine own_retN X177 hx Bd.notSynchronized (t := .char) (z := (own_ch (bs.getD i 0))) Bd.returns (by simp) (own_narch _) (hb hby ch_d15) hh177 (Nat.le_of_ble_eq_true rfl) (Nat.le_of_ble_eq_true rfl) ?_
  exact ⟨rfl, N177, rfl⟩
theorem cft_d0 : decode jdk_41_method_12_code 0 = .ok (.iload_n 0, 1) := by decide +kernel
theorem cft_d1 : decode jdk_41_method_12_code 1 = .ok (.ifCond .lt 13, 3) := by decide +kernel
theorem cft_d4 : decode jdk_41_method_12_code 4 = .ok (.iload_n 0, 1) := by decide +kernel
theorem cft_d5 : decode jdk_41_method_12_code 5 = .ok (.iload_n 1, 1) := by decide +kernel
theorem cft_d6 : decode jdk_41_method_12_code 6 = .ok (.if_icmp .gt 8, 3) := by decide +kernel
theorem cft_d9 : decode jdk_41_method_12_code 9 = .ok (.iload_n 1, 1) := by decide +kernel
theorem cft_d10 : decode jdk_41_method_12_code 10 = .ok (.iload_n 2, 1) := by decide +kernel
theorem cft_d11 : decode jdk_41_method_12_code 11 = .ok (.if_icmp .le 11, 3) := by decide +kernel
theorem cft_d22 : decode jdk_41_method_12_code 22 = .ok (.iload_n 0, 1) := by decide +kernel
theorem cft_d23 : decode jdk_41_method_12_code 23 = .ok (.ireturn, 1) := by decide +kernel
theorem cft_pn : plainName "jdk/internal/util/Preconditions" = true := by first | (simp [plainName, overriddenIn]; done) | decide +kernel
theorem cft_ef (m : MethodId) (x0 : Int32) (x1 : Int32) (x2 : Int32) (x3 : Value) (hx3 : x3.isRef = true) : entryFrame m #[(.int x0), (.int x1), (.int x2), x3] 4 = mkF m 0 #[.val (.int x0), .val (.int x1), .val (.int x2), .val x3] [] := by cases x3 <;> first | (exact absurd hx3 Bool.false_ne_true) | (simp [entryFrame, mkF, argsToLocals, Value.category]; done) | rfl
set_option maxRecDepth 65536 in
set_option maxHeartbeats 40000000 in
theorem rm_cft (l : Launch) (Z : State) (a0 : Array Value) (hw : ∀ d ∈ tables_1, d.before a0 Z = true) (ws : List Jvm.Cond) (x1 : Int32) (x2 : Int32) (x3 : Int32) (fm : Value) (hfm : fm.isRef = true) (h0 : Heap) (n0 : Nat) (Z0 : n0 ≤ h0.size) (h1 : ¬ x1 < 0) (h2 : ¬ x2 < x1) (h3 : ¬ x3 < x2) :
    MetFree l (⟨"jdk/internal/util/Preconditions", "checkFromToIndex", "(IIILjava/util/function/BiFunction;)I"⟩ : MethodName) (head1 (Jvm.Cond.code (⟨"jdk/internal/util/Preconditions", "checkFromToIndex", "(IIILjava/util/function/BiFunction;)I"⟩ : MethodName) jdk_41_method_12_code 4 (some .int) :: ws) ({ frames := 0, cells := 0, slots := 0, locals := 0 } : Room)) (fun a U => a = #[(.int x1), (.int x2), (.int x3), fm] ∧ Z.Warmed39 U.vm ∧ U.heap = h0) (fun _ _ _ _ _ => True) (fun _ U o U' => OwnEnd U (fun v h L => v = some (.int x1) ∧ Fr n0 L ∧ h = h0) ({ frames := 0, cells := 0, slots := 0, locals := 0 } : Room).cells ({ frames := 0, cells := 0, slots := 0, locals := 0 } : Room).slots o U') := by
  refine MetFree.of_bodySF (plainFor_of_name cft_pn) hisR ?_
  intro p e s m args below meth c s₁ Bd hml0 hP hK
  obtain ⟨rfl, hZ, hh⟩ := hP
  have hx := Bd.exec
  have hby := Bd.bytes
  have hml : c.maxLocals = 4 := hml0
  have hown : s.vm.findClass "jdk/internal/util/Preconditions" = some m.cls := findClass_of_methodNamed Bd.named
  have hnm := (name_of_methodNamed Bd.named Bd.method).1
  have X0 : Stand p l e ({ frames := 0, cells := 0, slots := 0, locals := 0 } : Room) s m #[(.int x1), (.int x2), (.int x3), fm] below meth c s₁ [] 0 0 := Stand.of_body Bd
  have e0 : s₁.heap = h0 := by rw [← hh, Bd.state]; rfl
  have N0 := Fr.nil n0
  have KP0 := Keep.refl h0 []
  refine own_go (Q := (OwnEnd s (fun v h L => v = some (.int x1) ∧ Fr n0 L ∧ h = h0) ({ frames := 0, cells := 0, slots := 0, locals := 0 } : Room).cells ({ frames := 0, cells := 0, slots := 0, locals := 0 } : Room).slots)) ?_
  refine own_back (fun t k => castTop (cft_ef m x1 x2 x3 fm hfm) k) ?_
  show OwnGo p e below (s₁.setTop (mkF m 0 #[.val (.int x1), .val (.int x2), .val (.int x3), .val fm] [])) _
  refine own_back (fun t k => XS.iloadN X0.here hx rfl (hb hby cft_d0) rfl k) ?_
  show OwnGo p e below (s₁.setTop (mkF m 1 #[.val (.int x1), .val (.int x2), .val (.int x3), .val fm] [(.int x1)])) _
  refine own_back (fun t k => XS.ifNo X0.here hx rfl (hb hby cft_d1) rfl (Jvm.Free.XT.i0_lt_f h1) k) ?_
  show OwnGo p e below (s₁.setTop (mkF m 4 #[.val (.int x1), .val (.int x2), .val (.int x3), .val fm] [])) _
  refine own_back (fun t k => XS.iloadN X0.here hx rfl (hb hby cft_d4) rfl k) ?_
  show OwnGo p e below (s₁.setTop (mkF m 5 #[.val (.int x1), .val (.int x2), .val (.int x3), .val fm] [(.int x1)])) _
  refine own_back (fun t k => XS.iloadN X0.here hx rfl (hb hby cft_d5) rfl k) ?_
  show OwnGo p e below (s₁.setTop (mkF m 6 #[.val (.int x1), .val (.int x2), .val (.int x3), .val fm] [(.int x2), (.int x1)])) _
  refine own_back (fun t k => XS.icmpNo X0.here hx rfl (hb hby cft_d6) rfl (Jvm.Free.XT.ii_gt_f h2) k) ?_
  show OwnGo p e below (s₁.setTop (mkF m 9 #[.val (.int x1), .val (.int x2), .val (.int x3), .val fm] [])) _
  refine own_back (fun t k => XS.iloadN X0.here hx rfl (hb hby cft_d9) rfl k) ?_
  show OwnGo p e below (s₁.setTop (mkF m 10 #[.val (.int x1), .val (.int x2), .val (.int x3), .val fm] [(.int x2)])) _
  refine own_back (fun t k => XS.iloadN X0.here hx rfl (hb hby cft_d10) rfl k) ?_
  show OwnGo p e below (s₁.setTop (mkF m 11 #[.val (.int x1), .val (.int x2), .val (.int x3), .val fm] [(.int x3), (.int x2)])) _
  refine own_back (fun t k => XS.icmpYes X0.here hx rfl (pc0 := 11) (pc' := 22) rfl (hb hby cft_d11) rfl (Jvm.Free.XT.ii_le_t h3) (by decide) (by decide) k) ?_
  show OwnGo p e below (s₁.setTop (mkF m 22 #[.val (.int x1), .val (.int x2), .val (.int x3), .val fm] [])) _
  refine own_back (fun t k => XS.iloadN X0.here hx rfl (hb hby cft_d22) rfl k) ?_
  show OwnGo p e below (s₁.setTop (mkF m 23 #[.val (.int x1), .val (.int x2), .val (.int x3), .val fm] [(.int x1)])) _
  refine own_retI X0 hx Bd.notSynchronized Bd.returns (hb hby cft_d23) e0 (Nat.le_of_ble_eq_true rfl) (Nat.le_of_ble_eq_true rfl) ?_
  exact ⟨rfl, N0, rfl⟩
theorem cbe_d0 : decode jdk_42_method_158_code 0 = .ok (.iload_n 0, 1) := by decide +kernel
theorem cbe_d1 : decode jdk_42_method_158_code 1 = .ok (.iload_n 1, 1) := by decide +kernel
theorem cbe_d2 : decode jdk_42_method_158_code 2 = .ok (.iload_n 2, 1) := by decide +kernel
theorem cbe_d3 : decode jdk_42_method_158_code 3 = .ok (.getstatic 1053, 3) := by decide +kernel
theorem cbe_d6 : decode jdk_42_method_158_code 6 = .ok (.invokestatic 1062, 3) := by decide +kernel
theorem cbe_d9 : decode jdk_42_method_158_code 9 = .ok (.pop, 1) := by decide +kernel
theorem cbe_d10 : decode jdk_42_method_158_code 10 = .ok (.return_, 1) := by decide +kernel
theorem cbe_pn : plainName "java/lang/String" = true := by first | (simp [plainName, overriddenIn]; done) | decide +kernel
theorem cbe_pd0 : parseMethodDescriptor "(IIILjava/util/function/BiFunction;)I" = some ⟨[.int, .int, .int, (.object "java/util/function/BiFunction")], some .int⟩ := by decide +kernel
theorem cbe_ef (m : MethodId) (x0 : Int32) (x1 : Int32) (x2 : Int32) : entryFrame m #[(.int x0), (.int x1), (.int x2)] 3 = mkF m 0 #[.val (.int x0), .val (.int x1), .val (.int x2)] [] := by first | (simp [entryFrame, mkF, argsToLocals, Value.category]; done) | rfl
set_option maxRecDepth 65536 in
set_option maxHeartbeats 40000000 in
theorem rm_cbe (l : Launch) (Z : State) (a0 : Array Value) (hw : ∀ d ∈ tables_1, d.before a0 Z = true) (ws : List Jvm.Cond) (x1 : Int32) (x2 : Int32) (x3 : Int32) (cz : Int32) (fm : Value) (h0 : Heap) (n0 : Nat) (Z0 : n0 ≤ h0.size) (OL : Old Z n0 h0) (h1 : ¬ x1 < 0) (h2 : ¬ x2 < x1) (h3 : ¬ x3 < x2) (SC : Sta Z Z.heap "java/lang/String" "COMPACT_STRINGS" "Z" (.int cz)) (hcz : ¬ cz = 0) (SO : Sta Z Z.heap "jdk/internal/util/Preconditions" "SIOOBE_FORMATTER" "Ljava/util/function/BiFunction;" fm) (hfm : fm.isRef = true) :
    MetFree l (⟨"java/lang/String", "checkBoundsBeginEnd", "(III)V"⟩ : MethodName) (head1 (Jvm.Cond.code (⟨"java/lang/String", "checkBoundsBeginEnd", "(III)V"⟩ : MethodName) jdk_42_method_158_code 3 none :: ws) ({ frames := 1, cells := 0, slots := 0, locals := 24 } : Room)) (fun a U => a = #[(.int x1), (.int x2), (.int x3)] ∧ Z.Warmed39 U.vm ∧ U.heap = h0) (fun _ _ _ _ _ => True) (fun _ U o U' => OwnEnd U (fun v h L => v = none ∧ Fr n0 L ∧ h = h0) ({ frames := 1, cells := 0, slots := 0, locals := 24 } : Room).cells ({ frames := 1, cells := 0, slots := 0, locals := 24 } : Room).slots o U') := by
  refine MetFree.of_bodySF (plainFor_of_name cbe_pn) hisR ?_
  intro p e s m args below meth c s₁ Bd hml0 hP hK
  obtain ⟨rfl, hZ, hh⟩ := hP
  have hx := Bd.exec
  have hby := Bd.bytes
  have hml : c.maxLocals = 3 := hml0
  have hown : s.vm.findClass "java/lang/String" = some m.cls := findClass_of_methodNamed Bd.named
  have hnm := (name_of_methodNamed Bd.named Bd.method).1
  have X0 : Stand p l e ({ frames := 1, cells := 0, slots := 0, locals := 24 } : Room) s m #[(.int x1), (.int x2), (.int x3)] below meth c s₁ [] 0 0 := Stand.of_body Bd
  have e0 : s₁.heap = h0 := by rw [← hh, Bd.state]; rfl
  have N0 := Fr.nil n0
  have KP0 := Keep.refl h0 []
  refine own_go (Q := (OwnEnd s (fun v h L => v = none ∧ Fr n0 L ∧ h = h0) ({ frames := 1, cells := 0, slots := 0, locals := 24 } : Room).cells ({ frames := 1, cells := 0, slots := 0, locals := 24 } : Room).slots)) ?_
  refine own_back (fun t k => castTop (cbe_ef m x1 x2 x3) k) ?_
  show OwnGo p e below (s₁.setTop (mkF m 0 #[.val (.int x1), .val (.int x2), .val (.int x3)] [])) _
  refine own_back (fun t k => XS.iloadN X0.here hx rfl (hb hby cbe_d0) rfl k) ?_
  show OwnGo p e below (s₁.setTop (mkF m 1 #[.val (.int x1), .val (.int x2), .val (.int x3)] [(.int x1)])) _
  refine own_back (fun t k => XS.iloadN X0.here hx rfl (hb hby cbe_d1) rfl k) ?_
  show OwnGo p e below (s₁.setTop (mkF m 2 #[.val (.int x1), .val (.int x2), .val (.int x3)] [(.int x2), (.int x1)])) _
  refine own_back (fun t k => XS.iloadN X0.here hx rfl (hb hby cbe_d2) rfl k) ?_
  show OwnGo p e below (s₁.setTop (mkF m 3 #[.val (.int x1), .val (.int x2), .val (.int x3)] [(.int x3), (.int x2), (.int x1)])) _
  obtain ⟨T178, X178, e178, st178⟩ := getS2 X0 hx hZ hown (host := "") (Or.inl (hw _ (List.mem_of_getElem? (i := 54) rfl))) Via.refl e0 (SO.ext OL.2) (g := (mkF m 3 #[.val (.int x1), .val (.int x2), .val (.int x3)] [(.int x3), (.int x2), (.int x1)])) rfl (hb hby cbe_d3)
  refine own_back st178 ?_
  show OwnGo p e below (T178.setTop (mkF m 6 #[.val (.int x1), .val (.int x2), .val (.int x3)] [fm, (.int x3), (.int x2), (.int x1)])) _
  obtain ⟨_, _, ⟨T179, L179, k179, n179⟩, -, X179, ⟨Lc179, hQ179, l179, y179, z179⟩, st179⟩ := Jvm.LawKit.callS X178 hx (y := (⟨"jdk/internal/util/Preconditions", "checkFromToIndex", "(IIILjava/util/function/BiFunction;)I"⟩ : MethodName)) hown (mvT hZ (hw _ (List.mem_of_getElem? (i := 56) rfl))) (mvT hZ (hw _ (List.mem_of_getElem? (i := 57) rfl))) (mvT hZ (hw _ (List.mem_of_getElem? (i := 55) rfl))) (mvT hZ (hw _ (List.mem_of_getElem? (i := 58) rfl))) (by decide) (own_backN (W := 0) (rm_cft l Z a0 hw [] x1 x2 x3 fm hfm h0 n0 Z0 h1 h2 h3) hZ (hw _ (List.mem_of_getElem? (i := 58) rfl)) (hw _ (List.mem_of_getElem? (i := 55) rfl)) (by decide) (by decide)) (g := (mkF m 6 #[.val (.int x1), .val (.int x2), .val (.int x3)] [fm, (.int x3), (.int x2), (.int x1)])) rfl (by rw [hml]; rfl) (argsL := [(.int x1), (.int x2), (.int x3), fm]) (rest := []) (lenOf cbe_pd0 rfl) rfl (by show 2 * 0 + _ ≤ _; exact Nat.le_of_eq rfl) (hb hby cbe_d6) (fun _ _ => ⟨rfl, e178, Nat.le_of_ble_eq_true rfl, Nat.le_of_ble_eq_true rfl⟩)
  dsimp only [Pt.U, Pt.locs, Pt.cells, Pt.slots] at X179 l179 y179 z179 st179 hQ179
  subst l179 y179 z179
  obtain ⟨rfl, N179q, hh179⟩ := hQ179
  refine own_back st179 ?_
  have N179 := Fr.app N0 N179q
  show OwnGo p e below (T179.setTop (mkF m 9 #[.val (.int x1), .val (.int x2), .val (.int x3)] [(.int x1)])) _
  refine own_back (fun t k => XS.pop X179.here hx rfl (hb hby cbe_d9) rfl rfl k) ?_
  show OwnGo p e below (T179.setTop (mkF m 10 #[.val (.int x1), .val (.int x2), .val (.int x3)] [])) _
  refine own_retV X179 hx Bd.notSynchronized Bd.returns (hb hby cbe_d10) hh179 (Nat.le_of_ble_eq_true rfl) (Nat.le_of_ble_eq_true rfl) ?_
  exact ⟨rfl, N179, rfl⟩
theorem min_d0 : decode jdk_29_method_69_code 0 = .ok (.iload_n 0, 1) := by decide +kernel
theorem min_d1 : decode jdk_29_method_69_code 1 = .ok (.iload_n 1, 1) := by decide +kernel
theorem min_d2 : decode jdk_29_method_69_code 2 = .ok (.if_icmp .gt 7, 3) := by decide +kernel
theorem min_d5 : decode jdk_29_method_69_code 5 = .ok (.iload_n 0, 1) := by decide +kernel
theorem min_d6 : decode jdk_29_method_69_code 6 = .ok (.goto 4, 3) := by decide +kernel
theorem min_d9 : decode jdk_29_method_69_code 9 = .ok (.iload_n 1, 1) := by decide +kernel
theorem min_d10 : decode jdk_29_method_69_code 10 = .ok (.ireturn, 1) := by decide +kernel
theorem min_ef (m : MethodId) (x0 : Int32) (x1 : Int32) : entryFrame m #[(.int x0), (.int x1)] 2 = mkF m 0 #[.val (.int x0), .val (.int x1)] [] := by first | (simp [entryFrame, mkF, argsToLocals, Value.category]; done) | rfl
set_option maxRecDepth 65536 in
set_option maxHeartbeats 40000000 in
theorem rm_min (l : Launch) (Z : State) (a0 : Array Value) (hw : ∀ d ∈ tables_1, d.before a0 Z = true) (ws : List Jvm.Cond) (x1 : Int32) (x2 : Int32) (h0 : Heap) (n0 : Nat) (Z0 : n0 ≤ h0.size) (h1 : ¬ x1 < x2) :
    MetFree l (⟨"java/lang/Math", "min", "(II)I"⟩ : MethodName) (head1 (Jvm.Cond.code (⟨"java/lang/Math", "min", "(II)I"⟩ : MethodName) jdk_29_method_69_code 2 (some .int) :: ws) ({ frames := 0, cells := 0, slots := 0, locals := 0 } : Room)) (fun a U => a = #[(.int x1), (.int x2)] ∧ Z.Warmed39 U.vm ∧ U.heap = h0) (fun _ _ _ _ _ => True) (fun _ U o U' => OwnEnd U (fun v h L => v = some (.int x2) ∧ Fr n0 L ∧ h = h0) ({ frames := 0, cells := 0, slots := 0, locals := 0 } : Room).cells ({ frames := 0, cells := 0, slots := 0, locals := 0 } : Room).slots o U') := by
  refine MetFree.of_bodySF (Jvm.Free.JP.mathPlain rfl (by decide +kernel)) hisR ?_
  intro p e s m args below meth c s₁ Bd hml0 hP hK
  obtain ⟨rfl, hZ, hh⟩ := hP
  have hx := Bd.exec
  have hby := Bd.bytes
  have hml : c.maxLocals = 2 := hml0
  have hown : s.vm.findClass "java/lang/Math" = some m.cls := findClass_of_methodNamed Bd.named
  have hnm := (name_of_methodNamed Bd.named Bd.method).1
  have X0 : Stand p l e ({ frames := 0, cells := 0, slots := 0, locals := 0 } : Room) s m #[(.int x1), (.int x2)] below meth c s₁ [] 0 0 := Stand.of_body Bd
  have e0 : s₁.heap = h0 := by rw [← hh, Bd.state]; rfl
  have N0 := Fr.nil n0
  have KP0 := Keep.refl h0 []
  refine own_go (Q := (OwnEnd s (fun v h L => v = some (.int x2) ∧ Fr n0 L ∧ h = h0) ({ frames := 0, cells := 0, slots := 0, locals := 0 } : Room).cells ({ frames := 0, cells := 0, slots := 0, locals := 0 } : Room).slots)) ?_
  refine own_back (fun t k => castTop (min_ef m x1 x2) k) ?_
  show OwnGo p e below (s₁.setTop (mkF m 0 #[.val (.int x1), .val (.int x2)] [])) _
  refine own_back (fun t k => XS.iloadN X0.here hx rfl (hb hby min_d0) rfl k) ?_
  show OwnGo p e below (s₁.setTop (mkF m 1 #[.val (.int x1), .val (.int x2)] [(.int x1)])) _
  refine own_back (fun t k => XS.iloadN X0.here hx rfl (hb hby min_d1) rfl k) ?_
  show OwnGo p e below (s₁.setTop (mkF m 2 #[.val (.int x1), .val (.int x2)] [(.int x2), (.int x1)])) _
  by_cases hc2_180 : x2 < x1
  · refine own_back (fun t k => XS.icmpYes X0.here hx rfl (pc0 := 2) (pc' := 9) rfl (hb hby min_d2) rfl (Jvm.Free.XT.ii_gt_t hc2_180) (by decide) (by decide) k) ?_
    show OwnGo p e below (s₁.setTop (mkF m 9 #[.val (.int x1), .val (.int x2)] [])) _
    refine own_back (fun t k => XS.iloadN X0.here hx rfl (hb hby min_d9) rfl k) ?_
    show OwnGo p e below (s₁.setTop (mkF m 10 #[.val (.int x1), .val (.int x2)] [(.int x2)])) _
    refine own_retI X0 hx Bd.notSynchronized Bd.returns (hb hby min_d10) e0 (Nat.le_of_ble_eq_true rfl) (Nat.le_of_ble_eq_true rfl) ?_
    exact ⟨rfl, N0, rfl⟩
  · refine own_back (fun t k => XS.icmpNo X0.here hx rfl (hb hby min_d2) rfl (Jvm.Free.XT.ii_gt_f hc2_180) k) ?_
    show OwnGo p e below (s₁.setTop (mkF m 5 #[.val (.int x1), .val (.int x2)] [])) _
    refine own_back (fun t k => XS.iloadN X0.here hx rfl (hb hby min_d5) rfl k) ?_
    show OwnGo p e below (s₁.setTop (mkF m 6 #[.val (.int x1), .val (.int x2)] [(.int x1)])) _
    refine own_back (fun t k => XS.goto X0.here hx rfl (pc0 := 6) (pc' := 10) rfl (hb hby min_d6) (by decide) (by decide) k) ?_
    show OwnGo p e below (s₁.setTop (mkF m 10 #[.val (.int x1), .val (.int x2)] [(.int x1)])) _
    refine own_retI X0 hx Bd.notSynchronized Bd.returns (hb hby min_d10) e0 (Nat.le_of_ble_eq_true rfl) (Nat.le_of_ble_eq_true rfl) ?_
    exact ⟨by rw [own_i32eq h1 hc2_180], N0, rfl⟩
theorem ckl_d0 : decode jdk_65_method_131_code 0 = .ok (.iload_n 1, 1) := by decide +kernel
theorem ckl_d1 : decode jdk_65_method_131_code 1 = .ok (.iload_n 0, 1) := by decide +kernel
theorem ckl_d2 : decode jdk_65_method_131_code 2 = .ok (.if_icmp .ge 35, 3) := by decide +kernel
theorem ckl_d37 : decode jdk_65_method_131_code 37 = .ok (.return_, 1) := by decide +kernel
theorem ckl_pn : plainName "java/util/Arrays" = true := by first | (simp [plainName, overriddenIn]; done) | decide +kernel
theorem ckl_ef (m : MethodId) (x0 : Int32) (x1 : Int32) : entryFrame m #[(.int x0), (.int x1)] 2 = mkF m 0 #[.val (.int x0), .val (.int x1)] [] := by first | (simp [entryFrame, mkF, argsToLocals, Value.category]; done) | rfl
set_option maxRecDepth 65536 in
set_option maxHeartbeats 40000000 in
theorem rm_ckl (l : Launch) (Z : State) (a0 : Array Value) (hw : ∀ d ∈ tables_1, d.before a0 Z = true) (ws : List Jvm.Cond) (x1 : Int32) (x2 : Int32) (h0 : Heap) (n0 : Nat) (Z0 : n0 ≤ h0.size) (h1 : ¬ x2 < x1) :
    MetFree l (⟨"java/util/Arrays", "checkLength", "(II)V"⟩ : MethodName) (head1 (Jvm.Cond.code (⟨"java/util/Arrays", "checkLength", "(II)V"⟩ : MethodName) jdk_65_method_131_code 2 none :: ws) ({ frames := 0, cells := 0, slots := 0, locals := 0 } : Room)) (fun a U => a = #[(.int x1), (.int x2)] ∧ Z.Warmed39 U.vm ∧ U.heap = h0) (fun _ _ _ _ _ => True) (fun _ U o U' => OwnEnd U (fun v h L => v = none ∧ Fr n0 L ∧ h = h0) ({ frames := 0, cells := 0, slots := 0, locals := 0 } : Room).cells ({ frames := 0, cells := 0, slots := 0, locals := 0 } : Room).slots o U') := by
  refine MetFree.of_bodySF (plainFor_of_name ckl_pn) hisR ?_
  intro p e s m args below meth c s₁ Bd hml0 hP hK
  obtain ⟨rfl, hZ, hh⟩ := hP
  have hx := Bd.exec
  have hby := Bd.bytes
  have hml : c.maxLocals = 2 := hml0
  have hown : s.vm.findClass "java/util/Arrays" = some m.cls := findClass_of_methodNamed Bd.named
  have hnm := (name_of_methodNamed Bd.named Bd.method).1
  have X0 : Stand p l e ({ frames := 0, cells := 0, slots := 0, locals := 0 } : Room) s m #[(.int x1), (.int x2)] below meth c s₁ [] 0 0 := Stand.of_body Bd
  have e0 : s₁.heap = h0 := by rw [← hh, Bd.state]; rfl
  have N0 := Fr.nil n0
  have KP0 := Keep.refl h0 []
  refine own_go (Q := (OwnEnd s (fun v h L => v = none ∧ Fr n0 L ∧ h = h0) ({ frames := 0, cells := 0, slots := 0, locals := 0 } : Room).cells ({ frames := 0, cells := 0, slots := 0, locals := 0 } : Room).slots)) ?_
  refine own_back (fun t k => castTop (ckl_ef m x1 x2) k) ?_
  show OwnGo p e below (s₁.setTop (mkF m 0 #[.val (.int x1), .val (.int x2)] [])) _
  refine own_back (fun t k => XS.iloadN X0.here hx rfl (hb hby ckl_d0) rfl k) ?_
  show OwnGo p e below (s₁.setTop (mkF m 1 #[.val (.int x1), .val (.int x2)] [(.int x2)])) _
  refine own_back (fun t k => XS.iloadN X0.here hx rfl (hb hby ckl_d1) rfl k) ?_
  show OwnGo p e below (s₁.setTop (mkF m 2 #[.val (.int x1), .val (.int x2)] [(.int x1), (.int x2)])) _
  refine own_back (fun t k => XS.icmpYes X0.here hx rfl (pc0 := 2) (pc' := 37) rfl (hb hby ckl_d2) rfl (Jvm.Free.XT.ii_ge_t h1) (by decide) (by decide) k) ?_
  show OwnGo p e below (s₁.setTop (mkF m 37 #[.val (.int x1), .val (.int x2)] [])) _
  refine own_retV X0 hx Bd.notSynchronized Bd.returns (hb hby ckl_d37) e0 (Nat.le_of_ble_eq_true rfl) (Nat.le_of_ble_eq_true rfl) ?_
  exact ⟨rfl, N0, rfl⟩
theorem crb_d0 : decode jdk_65_method_133_code 0 = .ok (.iload_n 1, 1) := by decide +kernel
theorem crb_d1 : decode jdk_65_method_133_code 1 = .ok (.iload_n 2, 1) := by decide +kernel
theorem crb_d2 : decode jdk_65_method_133_code 2 = .ok (.invokestatic 343, 3) := by decide +kernel
theorem crb_d5 : decode jdk_65_method_133_code 5 = .ok (.iload_n 2, 1) := by decide +kernel
theorem crb_d6 : decode jdk_65_method_133_code 6 = .ok (.iload_n 1, 1) := by decide +kernel
theorem crb_d7 : decode jdk_65_method_133_code 7 = .ok (.isub, 1) := by decide +kernel
theorem crb_d8 : decode jdk_65_method_133_code 8 = .ok (.istore_n 3, 1) := by decide +kernel
theorem crb_d9 : decode jdk_65_method_133_code 9 = .ok (.iload_n 3, 1) := by decide +kernel
theorem crb_d10 : decode jdk_65_method_133_code 10 = .ok (.newarray .byte, 2) := by decide +kernel
theorem crb_d12 : decode jdk_65_method_133_code 12 = .ok (.astore 4, 2) := by decide +kernel
theorem crb_d14 : decode jdk_65_method_133_code 14 = .ok (.aload_n 0, 1) := by decide +kernel
theorem crb_d15 : decode jdk_65_method_133_code 15 = .ok (.iload_n 1, 1) := by decide +kernel
theorem crb_d16 : decode jdk_65_method_133_code 16 = .ok (.aload 4, 2) := by decide +kernel
theorem crb_d18 : decode jdk_65_method_133_code 18 = .ok (.iconst 0, 1) := by decide +kernel
theorem crb_d19 : decode jdk_65_method_133_code 19 = .ok (.aload_n 0, 1) := by decide +kernel
theorem crb_d20 : decode jdk_65_method_133_code 20 = .ok (.arraylength, 1) := by decide +kernel
theorem crb_d21 : decode jdk_65_method_133_code 21 = .ok (.iload_n 1, 1) := by decide +kernel
theorem crb_d22 : decode jdk_65_method_133_code 22 = .ok (.isub, 1) := by decide +kernel
theorem crb_d23 : decode jdk_65_method_133_code 23 = .ok (.iload_n 3, 1) := by decide +kernel
theorem crb_d24 : decode jdk_65_method_133_code 24 = .ok (.invokestatic 304, 3) := by decide +kernel
theorem crb_d27 : decode jdk_65_method_133_code 27 = .ok (.invokestatic 150, 3) := by decide +kernel
theorem crb_d30 : decode jdk_65_method_133_code 30 = .ok (.aload 4, 2) := by decide +kernel
theorem crb_d32 : decode jdk_65_method_133_code 32 = .ok (.areturn, 1) := by decide +kernel
theorem crb_pn : plainName "java/util/Arrays" = true := by first | (simp [plainName, overriddenIn]; done) | decide +kernel
theorem crb_pd0 : parseMethodDescriptor "(II)V" = some ⟨[.int, .int], none⟩ := by decide +kernel
theorem crb_pd1 : parseMethodDescriptor "(II)I" = some ⟨[.int, .int], some .int⟩ := by decide +kernel
theorem crb_ef (m : MethodId) (x0 : Addr) (x1 : Int32) (x2 : Int32) : entryFrame m #[(.ref x0), (.int x1), (.int x2)] 5 = mkF m 0 #[.val (.ref x0), .val (.int x1), .val (.int x2), .unset, .unset] [] := by first | (simp [entryFrame, mkF, argsToLocals, Value.category]; done) | rfl
set_option maxRecDepth 65536 in
set_option maxHeartbeats 40000000 in
theorem rm_crb (l : Launch) (Z : State) (a0 : Array Value) (hw : ∀ d ∈ tables_1, d.before a0 Z = true) (ws : List Jvm.Cond) (t1 : Addr) (k1 : ClassId) (bs : List Int32) (su : Nat) (mu : Nat) (h0 : Heap) (n0 : Nat) (Z0 : n0 ≤ h0.size) (OL : Old Z n0 h0) (V1 : Arv Z h0 t1 k1 .byte (Int32.ofNat bs.length) (bs.map Value.int) (.int 0)) (m1 : bs.length ≤ 4000) (hmu : mu ≤ 4) (hsu : su + mu ≤ bs.length) :
    MetFree l (⟨"java/util/Arrays", "copyOfRangeByte", "([BII)[B"⟩ : MethodName) (head1 (Jvm.Cond.code (⟨"java/util/Arrays", "copyOfRangeByte", "([BII)[B"⟩ : MethodName) jdk_65_method_133_code 5 (some (.array .byte)) :: ws) ({ frames := 1, cells := 1, slots := 4, locals := 60 } : Room)) (fun a U => a = #[(.ref t1), (.int (Int32.ofNat su)), (.int (Int32.ofNat (su + mu)))] ∧ Z.Warmed39 U.vm ∧ U.heap = h0) (fun _ _ _ _ _ => True) (fun _ U o U' => OwnEnd U (fun v h L => ∃ b k, v = some (.ref b) ∧ Fr n0 L ∧ Ext h0 h ∧ n0 ≤ b ∧ h0.size ≤ b ∧ Arv Z h b k .byte (Int32.ofNat mu) (((bs.drop su).take mu).map Value.int) (.int 0)) ({ frames := 1, cells := 1, slots := 4, locals := 60 } : Room).cells ({ frames := 1, cells := 1, slots := 4, locals := 60 } : Room).slots o U') := by
  refine MetFree.of_bodySF (plainFor_of_name crb_pn) hisR ?_
  intro p e s m args below meth c s₁ Bd hml0 hP hK
  obtain ⟨rfl, hZ, hh⟩ := hP
  have hx := Bd.exec
  have hby := Bd.bytes
  have hml : c.maxLocals = 5 := hml0
  have hown : s.vm.findClass "java/util/Arrays" = some m.cls := findClass_of_methodNamed Bd.named
  have hnm := (name_of_methodNamed Bd.named Bd.method).1
  have X0 : Stand p l e ({ frames := 1, cells := 1, slots := 4, locals := 60 } : Room) s m #[(.ref t1), (.int (Int32.ofNat su)), (.int (Int32.ofNat (su + mu)))] below meth c s₁ [] 0 0 := Stand.of_body Bd
  have e0 : s₁.heap = h0 := by rw [← hh, Bd.state]; rfl
  have N0 := Fr.nil n0
  have KP0 := Keep.refl h0 []
  refine own_go (Q := (OwnEnd s (fun v h L => ∃ b k, v = some (.ref b) ∧ Fr n0 L ∧ Ext h0 h ∧ n0 ≤ b ∧ h0.size ≤ b ∧ Arv Z h b k .byte (Int32.ofNat mu) (((bs.drop su).take mu).map Value.int) (.int 0)) ({ frames := 1, cells := 1, slots := 4, locals := 60 } : Room).cells ({ frames := 1, cells := 1, slots := 4, locals := 60 } : Room).slots)) ?_
  refine own_back (fun t k => castTop (crb_ef m t1 (Int32.ofNat su) (Int32.ofNat (su + mu))) k) ?_
  show OwnGo p e below (s₁.setTop (mkF m 0 #[.val (.ref t1), .val (.int (Int32.ofNat su)), .val (.int (Int32.ofNat (su + mu))), .unset, .unset] [])) _
  refine own_back (fun t k => XS.iloadN X0.here hx rfl (hb hby crb_d0) rfl k) ?_
  show OwnGo p e below (s₁.setTop (mkF m 1 #[.val (.ref t1), .val (.int (Int32.ofNat su)), .val (.int (Int32.ofNat (su + mu))), .unset, .unset] [(.int (Int32.ofNat su))])) _
  refine own_back (fun t k => XS.iloadN X0.here hx rfl (hb hby crb_d1) rfl k) ?_
  show OwnGo p e below (s₁.setTop (mkF m 2 #[.val (.ref t1), .val (.int (Int32.ofNat su)), .val (.int (Int32.ofNat (su + mu))), .unset, .unset] [(.int (Int32.ofNat (su + mu))), (.int (Int32.ofNat su))])) _
  obtain ⟨_, _, ⟨T181, L181, k181, n181⟩, -, X181, ⟨Lc181, hQ181, l181, y181, z181⟩, st181⟩ := Jvm.LawKit.callS X0 hx (y := (⟨"java/util/Arrays", "checkLength", "(II)V"⟩ : MethodName)) hown (mvT hZ (hw _ (List.mem_of_getElem? (i := 107) rfl))) (mvT hZ (hw _ (List.mem_of_getElem? (i := 108) rfl))) (mvT hZ (hw _ (List.mem_of_getElem? (i := 102) rfl))) (mvT hZ (hw _ (List.mem_of_getElem? (i := 109) rfl))) (by decide) (own_backN (W := 0) (rm_ckl l Z a0 hw [] (Int32.ofNat su) (Int32.ofNat (su + mu)) h0 n0 Z0 (own_nlti (by omega) (by omega))) hZ (hw _ (List.mem_of_getElem? (i := 109) rfl)) (hw _ (List.mem_of_getElem? (i := 102) rfl)) (by decide) (by decide)) (g := (mkF m 2 #[.val (.ref t1), .val (.int (Int32.ofNat su)), .val (.int (Int32.ofNat (su + mu))), .unset, .unset] [(.int (Int32.ofNat (su + mu))), (.int (Int32.ofNat su))])) rfl (by rw [hml]; rfl) (argsL := [(.int (Int32.ofNat su)), (.int (Int32.ofNat (su + mu)))]) (rest := []) (lenOf crb_pd0 rfl) rfl (by show 2 * 0 + _ ≤ _; exact Nat.le_of_eq rfl) (hb hby crb_d2) (fun _ _ => ⟨rfl, e0, Nat.le_of_ble_eq_true rfl, Nat.le_of_ble_eq_true rfl⟩)
  dsimp only [Pt.U, Pt.locs, Pt.cells, Pt.slots] at X181 l181 y181 z181 st181 hQ181
  subst l181 y181 z181
  obtain ⟨rfl, N181q, hh181⟩ := hQ181
  refine own_back st181 ?_
  have N181 := Fr.app N0 N181q
  show OwnGo p e below (T181.setTop (mkF m 5 #[.val (.ref t1), .val (.int (Int32.ofNat su)), .val (.int (Int32.ofNat (su + mu))), .unset, .unset] [])) _
  refine own_back (fun t k => XS.iloadN X181.here hx rfl (hb hby crb_d5) rfl k) ?_
  show OwnGo p e below (T181.setTop (mkF m 6 #[.val (.ref t1), .val (.int (Int32.ofNat su)), .val (.int (Int32.ofNat (su + mu))), .unset, .unset] [(.int (Int32.ofNat (su + mu)))])) _
  refine own_back (fun t k => XS.iloadN X181.here hx rfl (hb hby crb_d6) rfl k) ?_
  show OwnGo p e below (T181.setTop (mkF m 7 #[.val (.ref t1), .val (.int (Int32.ofNat su)), .val (.int (Int32.ofNat (su + mu))), .unset, .unset] [(.int (Int32.ofNat su)), (.int (Int32.ofNat (su + mu)))])) _
  refine own_back (fun t k => XS.isub X181.here hx rfl (hb hby crb_d7) rfl k) ?_
  show OwnGo p e below (T181.setTop (mkF m 8 #[.val (.ref t1), .val (.int (Int32.ofNat su)), .val (.int (Int32.ofNat (su + mu))), .unset, .unset] [(.int ((Int32.ofNat (su + mu)) - (Int32.ofNat su)))])) _
  rw [show ((Int32.ofNat (su + mu)) - (Int32.ofNat su)) = (Int32.ofNat mu) from (own_subi (by omega)).trans (by rw [Nat.add_sub_cancel_left])]
  show OwnGo p e below (T181.setTop (mkF m 8 #[.val (.ref t1), .val (.int (Int32.ofNat su)), .val (.int (Int32.ofNat (su + mu))), .unset, .unset] [(.int (Int32.ofNat mu))])) _
  refine own_back (fun t k => XS.istoreN X181.here hx rfl (hb hby crb_d8) rfl (l' := #[.val (.ref t1), .val (.int (Int32.ofNat su)), .val (.int (Int32.ofNat (su + mu))), .val (.int (Int32.ofNat mu)), .unset]) rfl k) ?_
  show OwnGo p e below (T181.setTop (mkF m 9 #[.val (.ref t1), .val (.int (Int32.ofNat su)), .val (.int (Int32.ofNat (su + mu))), .val (.int (Int32.ofNat mu)), .unset] [])) _
  refine own_back (fun t k => XS.iloadN X181.here hx rfl (hb hby crb_d9) rfl k) ?_
  show OwnGo p e below (T181.setTop (mkF m 10 #[.val (.ref t1), .val (.int (Int32.ofNat su)), .val (.int (Int32.ofNat (su + mu))), .val (.int (Int32.ofNat mu)), .unset] [(.int (Int32.ofNat mu))])) _
  obtain ⟨T182, h182, k182, X182, e182, E182, A182, st182⟩ := newP X181 hx hZ (hw _ (List.mem_of_getElem? (i := 23) rfl)) hh181 (g := (mkF m 10 #[.val (.ref t1), .val (.int (Int32.ofNat su)), .val (.int (Int32.ofNat (su + mu))), .val (.int (Int32.ofNat mu)), .unset] [(.int (Int32.ofNat mu))])) rfl (hb hby crb_d10) rfl (own_nn (by omega)) (cap := 4) (by rw [own_clamp (by omega)]; omega) (by decide) (Nat.le_of_ble_eq_true rfl) (Nat.le_of_ble_eq_true rfl)
  obtain ⟨b182, g182⟩ : ∃ z, z = h0.size := ⟨_, rfl⟩
  have ge183 : n0 ≤ b182 := Nat.le_trans Z0 (Nat.le_of_eq g182.symm)
  have sz184 : h0.size ≤ b182 := Nat.le_trans KP0.1 (Nat.le_of_eq g182.symm)
  rw [← g182] at A182 st182
  have O185 := OL.ext E182
  have KP186 := KP0.ext E182
  have Zs187 := Nat.le_trans Z0 E182.1
  have f188 := V1.ext E182
  have V189 : Arv Z h182 b182 k182 .byte (Int32.ofNat mu) [(.int (0 : Int32)), (.int (0 : Int32)), (.int (0 : Int32)), (.int (0 : Int32))] (.int (0 : Int32)) := (Arv.new A182 (own_nn (by omega))).pad (pad_rep [] (.int (0 : Int32)) 4)
  refine own_back st182 ?_
  show OwnGo p e below (T182.setTop (mkF m 12 #[.val (.ref t1), .val (.int (Int32.ofNat su)), .val (.int (Int32.ofNat (su + mu))), .val (.int (Int32.ofNat mu)), .unset] [(.ref b182)])) _
  refine own_back (fun t k => XS.astore X182.here hx rfl (hb hby crb_d12) rfl rfl (l' := #[.val (.ref t1), .val (.int (Int32.ofNat su)), .val (.int (Int32.ofNat (su + mu))), .val (.int (Int32.ofNat mu)), .val (.ref b182)]) rfl k) ?_
  show OwnGo p e below (T182.setTop (mkF m 14 #[.val (.ref t1), .val (.int (Int32.ofNat su)), .val (.int (Int32.ofNat (su + mu))), .val (.int (Int32.ofNat mu)), .val (.ref b182)] [])) _
  refine own_back (fun t k => XS.aloadN X182.here hx rfl (hb hby crb_d14) rfl rfl k) ?_
  show OwnGo p e below (T182.setTop (mkF m 15 #[.val (.ref t1), .val (.int (Int32.ofNat su)), .val (.int (Int32.ofNat (su + mu))), .val (.int (Int32.ofNat mu)), .val (.ref b182)] [(.ref t1)])) _
  refine own_back (fun t k => XS.iloadN X182.here hx rfl (hb hby crb_d15) rfl k) ?_
  show OwnGo p e below (T182.setTop (mkF m 16 #[.val (.ref t1), .val (.int (Int32.ofNat su)), .val (.int (Int32.ofNat (su + mu))), .val (.int (Int32.ofNat mu)), .val (.ref b182)] [(.int (Int32.ofNat su)), (.ref t1)])) _
  refine own_back (fun t k => XS.aload X182.here hx rfl (hb hby crb_d16) rfl rfl k) ?_
  show OwnGo p e below (T182.setTop (mkF m 18 #[.val (.ref t1), .val (.int (Int32.ofNat su)), .val (.int (Int32.ofNat (su + mu))), .val (.int (Int32.ofNat mu)), .val (.ref b182)] [(.ref b182), (.int (Int32.ofNat su)), (.ref t1)])) _
  refine own_back (fun t k => XS.iconst X182.here hx rfl (hb hby crb_d18) k) ?_
  show OwnGo p e below (T182.setTop (mkF m 19 #[.val (.ref t1), .val (.int (Int32.ofNat su)), .val (.int (Int32.ofNat (su + mu))), .val (.int (Int32.ofNat mu)), .val (.ref b182)] [(.int (0 : Int32)), (.ref b182), (.int (Int32.ofNat su)), (.ref t1)])) _
  refine own_back (fun t k => XS.aloadN X182.here hx rfl (hb hby crb_d19) rfl rfl k) ?_
  show OwnGo p e below (T182.setTop (mkF m 20 #[.val (.ref t1), .val (.int (Int32.ofNat su)), .val (.int (Int32.ofNat (su + mu))), .val (.int (Int32.ofNat mu)), .val (.ref b182)] [(.ref t1), (.int (0 : Int32)), (.ref b182), (.int (Int32.ofNat su)), (.ref t1)])) _
  obtain ⟨c190, A190, q190, S190, M190, H190, U190⟩ := id f188
  refine own_back (fun t k => X182.arraylength hx (own_hat e182 A190.1) (State.isArrayOf_alike hZ.alike A190.2.1) (g := (mkF m 20 #[.val (.ref t1), .val (.int (Int32.ofNat su)), .val (.int (Int32.ofNat (su + mu))), .val (.int (Int32.ofNat mu)), .val (.ref b182)] [(.ref t1), (.int (0 : Int32)), (.ref b182), (.int (Int32.ofNat su)), (.ref t1)])) rfl rfl (hb hby crb_d20) t k) ?_
  rw [len_of S190 M190]
  show OwnGo p e below (T182.setTop (mkF m 21 #[.val (.ref t1), .val (.int (Int32.ofNat su)), .val (.int (Int32.ofNat (su + mu))), .val (.int (Int32.ofNat mu)), .val (.ref b182)] [(.int (Int32.ofNat bs.length)), (.int (0 : Int32)), (.ref b182), (.int (Int32.ofNat su)), (.ref t1)])) _
  refine own_back (fun t k => XS.iloadN X182.here hx rfl (hb hby crb_d21) rfl k) ?_
  show OwnGo p e below (T182.setTop (mkF m 22 #[.val (.ref t1), .val (.int (Int32.ofNat su)), .val (.int (Int32.ofNat (su + mu))), .val (.int (Int32.ofNat mu)), .val (.ref b182)] [(.int (Int32.ofNat su)), (.int (Int32.ofNat bs.length)), (.int (0 : Int32)), (.ref b182), (.int (Int32.ofNat su)), (.ref t1)])) _
  refine own_back (fun t k => XS.isub X182.here hx rfl (hb hby crb_d22) rfl k) ?_
  show OwnGo p e below (T182.setTop (mkF m 23 #[.val (.ref t1), .val (.int (Int32.ofNat su)), .val (.int (Int32.ofNat (su + mu))), .val (.int (Int32.ofNat mu)), .val (.ref b182)] [(.int ((Int32.ofNat bs.length) - (Int32.ofNat su))), (.int (0 : Int32)), (.ref b182), (.int (Int32.ofNat su)), (.ref t1)])) _
  refine own_back (fun t k => XS.iloadN X182.here hx rfl (hb hby crb_d23) rfl k) ?_
  show OwnGo p e below (T182.setTop (mkF m 24 #[.val (.ref t1), .val (.int (Int32.ofNat su)), .val (.int (Int32.ofNat (su + mu))), .val (.int (Int32.ofNat mu)), .val (.ref b182)] [(.int (Int32.ofNat mu)), (.int ((Int32.ofNat bs.length) - (Int32.ofNat su))), (.int (0 : Int32)), (.ref b182), (.int (Int32.ofNat su)), (.ref t1)])) _
  obtain ⟨_, _, ⟨T191, L191, k191, n191⟩, -, X191, ⟨Lc191, hQ191, l191, y191, z191⟩, st191⟩ := Jvm.LawKit.callS X182 hx (y := (⟨"java/lang/Math", "min", "(II)I"⟩ : MethodName)) hown (mvT hZ (hw _ (List.mem_of_getElem? (i := 110) rfl))) (mvT hZ (hw _ (List.mem_of_getElem? (i := 111) rfl))) (mvT hZ (hw _ (List.mem_of_getElem? (i := 112) rfl))) (mvT hZ (hw _ (List.mem_of_getElem? (i := 113) rfl))) (by decide) (own_backN (W := 4) (rm_min l Z a0 hw [] (Int32.ofNat bs.length - Int32.ofNat su) (Int32.ofNat mu) h182 n0 Zs187 (by rw [own_subi (by omega)]; exact own_nlti (by omega) (by omega))) hZ (hw _ (List.mem_of_getElem? (i := 113) rfl)) (hw _ (List.mem_of_getElem? (i := 112) rfl)) (by decide) (by decide)) (g := (mkF m 24 #[.val (.ref t1), .val (.int (Int32.ofNat su)), .val (.int (Int32.ofNat (su + mu))), .val (.int (Int32.ofNat mu)), .val (.ref b182)] [(.int (Int32.ofNat mu)), (.int ((Int32.ofNat bs.length) - (Int32.ofNat su))), (.int (0 : Int32)), (.ref b182), (.int (Int32.ofNat su)), (.ref t1)])) rfl (by rw [hml]; rfl) (argsL := [(.int ((Int32.ofNat bs.length) - (Int32.ofNat su))), (.int (Int32.ofNat mu))]) (rest := [(.int (0 : Int32)), (.ref b182), (.int (Int32.ofNat su)), (.ref t1)]) (lenOf crb_pd1 rfl) rfl (by show 2 * 0 + _ ≤ _; exact Nat.le_of_eq rfl) (hb hby crb_d24) (fun _ _ => ⟨rfl, e182, Nat.le_of_ble_eq_true rfl, Nat.le_of_ble_eq_true rfl⟩)
  dsimp only [Pt.U, Pt.locs, Pt.cells, Pt.slots] at X191 l191 y191 z191 st191 hQ191
  subst l191 y191 z191
  obtain ⟨rfl, N191q, hh191⟩ := hQ191
  refine own_back st191 ?_
  have N191 := Fr.app N181 N191q
  show OwnGo p e below (T191.setTop (mkF m 27 #[.val (.ref t1), .val (.int (Int32.ofNat su)), .val (.int (Int32.ofNat (su + mu))), .val (.int (Int32.ofNat mu)), .val (.ref b182)] [(.int (Int32.ofNat mu)), (.int (0 : Int32)), (.ref b182), (.int (Int32.ofNat su)), (.ref t1)])) _
  obtain ⟨T192, h192, Lq192, X192, e192, N192, K192, V192, st192⟩ := cpA X191 hx hZ hown (hw _ (List.mem_of_getElem? (i := 114) rfl)) (hw _ (List.mem_of_getElem? (i := 117) rfl)) (hw _ (List.mem_of_getElem? (i := 115) rfl)) (hw _ (List.mem_of_getElem? (i := 116) rfl)) hh191 f188 V189 (Or.inl ⟨rfl, rfl⟩) (own_nn (by omega)) (by decide) (own_nn (by omega)) (by rw [own_clamp (by omega), own_clamp (by omega), own_clamp (by omega)]; omega) (Nat.le_of_eq (Nat.zero_add _)) rfl (by show 0 + _ ≤ 4; rw [own_clamp (by omega)]; omega) N191 ge183 (g := (mkF m 27 #[.val (.ref t1), .val (.int (Int32.ofNat su)), .val (.int (Int32.ofNat (su + mu))), .val (.int (Int32.ofNat mu)), .val (.ref b182)] [(.int (Int32.ofNat mu)), (.int (0 : Int32)), (.ref b182), (.int (Int32.ofNat su)), (.ref t1)])) rfl (by rw [hml]; rfl) (rest := []) rfl (hb hby crb_d27) (by decide) (W := 0) (by show 2 * 0 + _ ≤ _; exact Nat.le_of_eq rfl) (by decide)
  refine own_back st192 ?_
  have O193 := O185.keep K192 (allS ge183 all0)
  have KP194 := KP186.trans K192 (allS (Or.inr sz184) all0)
  have Zs195 := Nat.le_trans Zs187 K192.1
  have V196 := Arv.pad V192 (own_cut bs su mu hmu hsu (by omega))
  show OwnGo p e below (T192.setTop (mkF m 30 #[.val (.ref t1), .val (.int (Int32.ofNat su)), .val (.int (Int32.ofNat (su + mu))), .val (.int (Int32.ofNat mu)), .val (.ref b182)] [])) _
  refine own_back (fun t k => XS.aload X192.here hx rfl (hb hby crb_d30) rfl rfl k) ?_
  show OwnGo p e below (T192.setTop (mkF m 32 #[.val (.ref t1), .val (.int (Int32.ofNat su)), .val (.int (Int32.ofNat (su + mu))), .val (.int (Int32.ofNat mu)), .val (.ref b182)] [(.ref b182)])) _
  refine own_retA X192 hx Bd.notSynchronized Bd.returns rfl rfl (hb hby crb_d32) e192 (Nat.le_of_ble_eq_true rfl) (Nat.le_of_ble_eq_true rfl) ?_
  exact ⟨b182, _, rfl, N192, own_ext KP194, ge183, sz184, V196⟩
theorem cor_d0 : decode jdk_65_method_132_code 0 = .ok (.iload_n 1, 1) := by decide +kernel
theorem cor_d1 : decode jdk_65_method_132_code 1 = .ok (.ifCond .ne 9, 3) := by decide +kernel
theorem cor_d4 : decode jdk_65_method_132_code 4 = .ok (.iload_n 2, 1) := by decide +kernel
theorem cor_d5 : decode jdk_65_method_132_code 5 = .ok (.aload_n 0, 1) := by decide +kernel
theorem cor_d6 : decode jdk_65_method_132_code 6 = .ok (.arraylength, 1) := by decide +kernel
theorem cor_d7 : decode jdk_65_method_132_code 7 = .ok (.if_icmp .eq 10, 3) := by decide +kernel
theorem cor_d10 : decode jdk_65_method_132_code 10 = .ok (.aload_n 0, 1) := by decide +kernel
theorem cor_d11 : decode jdk_65_method_132_code 11 = .ok (.iload_n 1, 1) := by decide +kernel
theorem cor_d12 : decode jdk_65_method_132_code 12 = .ok (.iload_n 2, 1) := by decide +kernel
theorem cor_d13 : decode jdk_65_method_132_code 13 = .ok (.invokestatic 339, 3) := by decide +kernel
theorem cor_d16 : decode jdk_65_method_132_code 16 = .ok (.areturn, 1) := by decide +kernel
theorem cor_pn : plainName "java/util/Arrays" = true := by first | (simp [plainName, overriddenIn]; done) | decide +kernel
theorem cor_pd0 : parseMethodDescriptor "([BII)[B" = some ⟨[(.array .byte), .int, .int], some (.array .byte)⟩ := by decide +kernel
theorem cor_ef (m : MethodId) (x0 : Addr) (x1 : Int32) (x2 : Int32) : entryFrame m #[(.ref x0), (.int x1), (.int x2)] 3 = mkF m 0 #[.val (.ref x0), .val (.int x1), .val (.int x2)] [] := by first | (simp [entryFrame, mkF, argsToLocals, Value.category]; done) | rfl
set_option maxRecDepth 65536 in
set_option maxHeartbeats 40000000 in
theorem rm_cor (l : Launch) (Z : State) (a0 : Array Value) (hw : ∀ d ∈ tables_1, d.before a0 Z = true) (ws : List Jvm.Cond) (t1 : Addr) (k1 : ClassId) (bs : List Int32) (su : Nat) (mu : Nat) (h0 : Heap) (n0 : Nat) (Z0 : n0 ≤ h0.size) (OL : Old Z n0 h0) (V1 : Arv Z h0 t1 k1 .byte (Int32.ofNat bs.length) (bs.map Value.int) (.int 0)) (m1 : bs.length ≤ 4000) (hmu : mu ≤ 4) (hsu : su + mu ≤ bs.length) (hne : ¬ (su = 0 ∧ su + mu = bs.length)) :
    MetFree l (⟨"java/util/Arrays", "copyOfRange", "([BII)[B"⟩ : MethodName) (head1 (Jvm.Cond.code (⟨"java/util/Arrays", "copyOfRange", "([BII)[B"⟩ : MethodName) jdk_65_method_132_code 3 (some (.array .byte)) :: ws) ({ frames := 2, cells := 1, slots := 4, locals := 80 } : Room)) (fun a U => a = #[(.ref t1), (.int (Int32.ofNat su)), (.int (Int32.ofNat (su + mu)))] ∧ Z.Warmed39 U.vm ∧ U.heap = h0) (fun _ _ _ _ _ => True) (fun _ U o U' => OwnEnd U (fun v h L => ∃ b k, v = some (.ref b) ∧ Fr n0 L ∧ Ext h0 h ∧ n0 ≤ b ∧ h0.size ≤ b ∧ Arv Z h b k .byte (Int32.ofNat mu) (((bs.drop su).take mu).map Value.int) (.int 0)) ({ frames := 2, cells := 1, slots := 4, locals := 80 } : Room).cells ({ frames := 2, cells := 1, slots := 4, locals := 80 } : Room).slots o U') := by
  refine MetFree.of_bodySF (plainFor_of_name cor_pn) hisR ?_
  intro p e s m args below meth c s₁ Bd hml0 hP hK
  obtain ⟨rfl, hZ, hh⟩ := hP
  have hx := Bd.exec
  have hby := Bd.bytes
  have hml : c.maxLocals = 3 := hml0
  have hown : s.vm.findClass "java/util/Arrays" = some m.cls := findClass_of_methodNamed Bd.named
  have hnm := (name_of_methodNamed Bd.named Bd.method).1
  have X0 : Stand p l e ({ frames := 2, cells := 1, slots := 4, locals := 80 } : Room) s m #[(.ref t1), (.int (Int32.ofNat su)), (.int (Int32.ofNat (su + mu)))] below meth c s₁ [] 0 0 := Stand.of_body Bd
  have e0 : s₁.heap = h0 := by rw [← hh, Bd.state]; rfl
  have N0 := Fr.nil n0
  have KP0 := Keep.refl h0 []
  refine own_go (Q := (OwnEnd s (fun v h L => ∃ b k, v = some (.ref b) ∧ Fr n0 L ∧ Ext h0 h ∧ n0 ≤ b ∧ h0.size ≤ b ∧ Arv Z h b k .byte (Int32.ofNat mu) (((bs.drop su).take mu).map Value.int) (.int 0)) ({ frames := 2, cells := 1, slots := 4, locals := 80 } : Room).cells ({ frames := 2, cells := 1, slots := 4, locals := 80 } : Room).slots)) ?_
  refine own_back (fun t k => castTop (cor_ef m t1 (Int32.ofNat su) (Int32.ofNat (su + mu))) k) ?_
  show OwnGo p e below (s₁.setTop (mkF m 0 #[.val (.ref t1), .val (.int (Int32.ofNat su)), .val (.int (Int32.ofNat (su + mu)))] [])) _
  refine own_back (fun t k => XS.iloadN X0.here hx rfl (hb hby cor_d0) rfl k) ?_
  show OwnGo p e below (s₁.setTop (mkF m 1 #[.val (.ref t1), .val (.int (Int32.ofNat su)), .val (.int (Int32.ofNat (su + mu)))] [(.int (Int32.ofNat su))])) _
  by_cases hc1_197 : (Int32.ofNat su) = (0 : Int32)
  · refine own_back (fun t k => XS.ifNo X0.here hx rfl (hb hby cor_d1) rfl (Jvm.Free.XT.i0_ne_f hc1_197) k) ?_
    show OwnGo p e below (s₁.setTop (mkF m 4 #[.val (.ref t1), .val (.int (Int32.ofNat su)), .val (.int (Int32.ofNat (su + mu)))] [])) _
    refine own_back (fun t k => XS.iloadN X0.here hx rfl (hb hby cor_d4) rfl k) ?_
    show OwnGo p e below (s₁.setTop (mkF m 5 #[.val (.ref t1), .val (.int (Int32.ofNat su)), .val (.int (Int32.ofNat (su + mu)))] [(.int (Int32.ofNat (su + mu)))])) _
    refine own_back (fun t k => XS.aloadN X0.here hx rfl (hb hby cor_d5) rfl rfl k) ?_
    show OwnGo p e below (s₁.setTop (mkF m 6 #[.val (.ref t1), .val (.int (Int32.ofNat su)), .val (.int (Int32.ofNat (su + mu)))] [(.ref t1), (.int (Int32.ofNat (su + mu)))])) _
    obtain ⟨c198, A198, q198, S198, M198, H198, U198⟩ := id V1
    refine own_back (fun t k => X0.arraylength hx (own_hat e0 A198.1) (State.isArrayOf_alike hZ.alike A198.2.1) (g := (mkF m 6 #[.val (.ref t1), .val (.int (Int32.ofNat su)), .val (.int (Int32.ofNat (su + mu)))] [(.ref t1), (.int (Int32.ofNat (su + mu)))])) rfl rfl (hb hby cor_d6) t k) ?_
    rw [len_of S198 M198]
    show OwnGo p e below (s₁.setTop (mkF m 7 #[.val (.ref t1), .val (.int (Int32.ofNat su)), .val (.int (Int32.ofNat (su + mu)))] [(.int (Int32.ofNat bs.length)), (.int (Int32.ofNat (su + mu)))])) _
    refine own_back (fun t k => XS.icmpNo X0.here hx rfl (hb hby cor_d7) rfl (Jvm.Free.XT.ii_eq_f (fun q => hne ⟨own_eqi (n := 0) (by omega) (by omega) hc1_197, own_eqi (by omega) (by omega) q⟩)) k) ?_
    show OwnGo p e below (s₁.setTop (mkF m 10 #[.val (.ref t1), .val (.int (Int32.ofNat su)), .val (.int (Int32.ofNat (su + mu)))] [])) _
    refine own_back (fun t k => XS.aloadN X0.here hx rfl (hb hby cor_d10) rfl rfl k) ?_
    show OwnGo p e below (s₁.setTop (mkF m 11 #[.val (.ref t1), .val (.int (Int32.ofNat su)), .val (.int (Int32.ofNat (su + mu)))] [(.ref t1)])) _
    refine own_back (fun t k => XS.iloadN X0.here hx rfl (hb hby cor_d11) rfl k) ?_
    show OwnGo p e below (s₁.setTop (mkF m 12 #[.val (.ref t1), .val (.int (Int32.ofNat su)), .val (.int (Int32.ofNat (su + mu)))] [(.int (Int32.ofNat su)), (.ref t1)])) _
    refine own_back (fun t k => XS.iloadN X0.here hx rfl (hb hby cor_d12) rfl k) ?_
    show OwnGo p e below (s₁.setTop (mkF m 13 #[.val (.ref t1), .val (.int (Int32.ofNat su)), .val (.int (Int32.ofNat (su + mu)))] [(.int (Int32.ofNat (su + mu))), (.int (Int32.ofNat su)), (.ref t1)])) _
    obtain ⟨_, _, ⟨T199, L199, k199, n199⟩, -, X199, ⟨Lc199, hQ199, l199, y199, z199⟩, st199⟩ := Jvm.LawKit.callS X0 hx (y := (⟨"java/util/Arrays", "copyOfRangeByte", "([BII)[B"⟩ : MethodName)) hown (mvT hZ (hw _ (List.mem_of_getElem? (i := 104) rfl))) (mvT hZ (hw _ (List.mem_of_getElem? (i := 105) rfl))) (mvT hZ (hw _ (List.mem_of_getElem? (i := 102) rfl))) (mvT hZ (hw _ (List.mem_of_getElem? (i := 106) rfl))) (by decide) (own_backN (W := 0) (rm_crb l Z a0 hw [] t1 k1 bs su mu h0 n0 Z0 OL V1 m1 hmu hsu) hZ (hw _ (List.mem_of_getElem? (i := 106) rfl)) (hw _ (List.mem_of_getElem? (i := 102) rfl)) (by decide) (by decide)) (g := (mkF m 13 #[.val (.ref t1), .val (.int (Int32.ofNat su)), .val (.int (Int32.ofNat (su + mu)))] [(.int (Int32.ofNat (su + mu))), (.int (Int32.ofNat su)), (.ref t1)])) rfl (by rw [hml]; rfl) (argsL := [(.ref t1), (.int (Int32.ofNat su)), (.int (Int32.ofNat (su + mu)))]) (rest := []) (lenOf cor_pd0 rfl) rfl (by show 2 * 0 + _ ≤ _; exact Nat.le_of_eq rfl) (hb hby cor_d13) (fun _ _ => ⟨rfl, e0, Nat.le_of_ble_eq_true rfl, Nat.le_of_ble_eq_true rfl⟩)
    dsimp only [Pt.U, Pt.locs, Pt.cells, Pt.slots] at X199 l199 y199 z199 st199 hQ199
    subst l199 y199 z199
    obtain ⟨bq199, kq199, rfl, N199q, E199, g199, z199, V199⟩ := hQ199
    refine own_back st199 ?_
    have N199 := Fr.app N0 N199q
    have O200 := OL.ext E199
    have KP201 := KP0.ext E199
    have Zs202 := Nat.le_trans Z0 E199.1
    have f203 := V1.ext E199
    show OwnGo p e below (T199.setTop (mkF m 16 #[.val (.ref t1), .val (.int (Int32.ofNat su)), .val (.int (Int32.ofNat (su + mu)))] [(.ref bq199)])) _
    refine own_retA X199 hx Bd.notSynchronized Bd.returns rfl rfl (hb hby cor_d16) rfl (Nat.le_of_ble_eq_true rfl) (Nat.le_of_ble_eq_true rfl) ?_
    exact ⟨_, _, rfl, N199, own_ext KP201, g199, z199, V199⟩
  · refine own_back (fun t k => XS.ifYes X0.here hx rfl (pc0 := 1) (pc' := 10) rfl (hb hby cor_d1) rfl (Jvm.Free.XT.i0_ne_t hc1_197) (by decide) (by decide) k) ?_
    show OwnGo p e below (s₁.setTop (mkF m 10 #[.val (.ref t1), .val (.int (Int32.ofNat su)), .val (.int (Int32.ofNat (su + mu)))] [])) _
    refine own_back (fun t k => XS.aloadN X0.here hx rfl (hb hby cor_d10) rfl rfl k) ?_
    show OwnGo p e below (s₁.setTop (mkF m 11 #[.val (.ref t1), .val (.int (Int32.ofNat su)), .val (.int (Int32.ofNat (su + mu)))] [(.ref t1)])) _
    refine own_back (fun t k => XS.iloadN X0.here hx rfl (hb hby cor_d11) rfl k) ?_
    show OwnGo p e below (s₁.setTop (mkF m 12 #[.val (.ref t1), .val (.int (Int32.ofNat su)), .val (.int (Int32.ofNat (su + mu)))] [(.int (Int32.ofNat su)), (.ref t1)])) _
    refine own_back (fun t k => XS.iloadN X0.here hx rfl (hb hby cor_d12) rfl k) ?_
    show OwnGo p e below (s₁.setTop (mkF m 13 #[.val (.ref t1), .val (.int (Int32.ofNat su)), .val (.int (Int32.ofNat (su + mu)))] [(.int (Int32.ofNat (su + mu))), (.int (Int32.ofNat su)), (.ref t1)])) _
    obtain ⟨_, _, ⟨T204, L204, k204, n204⟩, -, X204, ⟨Lc204, hQ204, l204, y204, z204⟩, st204⟩ := Jvm.LawKit.callS X0 hx (y := (⟨"java/util/Arrays", "copyOfRangeByte", "([BII)[B"⟩ : MethodName)) hown (mvT hZ (hw _ (List.mem_of_getElem? (i := 104) rfl))) (mvT hZ (hw _ (List.mem_of_getElem? (i := 105) rfl))) (mvT hZ (hw _ (List.mem_of_getElem? (i := 102) rfl))) (mvT hZ (hw _ (List.mem_of_getElem? (i := 106) rfl))) (by decide) (own_backN (W := 0) (rm_crb l Z a0 hw [] t1 k1 bs su mu h0 n0 Z0 OL V1 m1 hmu hsu) hZ (hw _ (List.mem_of_getElem? (i := 106) rfl)) (hw _ (List.mem_of_getElem? (i := 102) rfl)) (by decide) (by decide)) (g := (mkF m 13 #[.val (.ref t1), .val (.int (Int32.ofNat su)), .val (.int (Int32.ofNat (su + mu)))] [(.int (Int32.ofNat (su + mu))), (.int (Int32.ofNat su)), (.ref t1)])) rfl (by rw [hml]; rfl) (argsL := [(.ref t1), (.int (Int32.ofNat su)), (.int (Int32.ofNat (su + mu)))]) (rest := []) (lenOf cor_pd0 rfl) rfl (by show 2 * 0 + _ ≤ _; exact Nat.le_of_eq rfl) (hb hby cor_d13) (fun _ _ => ⟨rfl, e0, Nat.le_of_ble_eq_true rfl, Nat.le_of_ble_eq_true rfl⟩)
    dsimp only [Pt.U, Pt.locs, Pt.cells, Pt.slots] at X204 l204 y204 z204 st204 hQ204
    subst l204 y204 z204
    obtain ⟨bq204, kq204, rfl, N204q, E204, g204, z204, V204⟩ := hQ204
    refine own_back st204 ?_
    have N204 := Fr.app N0 N204q
    have O205 := OL.ext E204
    have KP206 := KP0.ext E204
    have Zs207 := Nat.le_trans Z0 E204.1
    have f208 := V1.ext E204
    show OwnGo p e below (T204.setTop (mkF m 16 #[.val (.ref t1), .val (.int (Int32.ofNat su)), .val (.int (Int32.ofNat (su + mu)))] [(.ref bq204)])) _
    refine own_retA X204 hx Bd.notSynchronized Bd.returns rfl rfl (hb hby cor_d16) rfl (Nat.le_of_ble_eq_true rfl) (Nat.le_of_ble_eq_true rfl) ?_
    exact ⟨_, _, rfl, N204, own_ext KP206, g204, z204, V204⟩
theorem sbb_d0 : decode jdk_42_method_151_code 0 = .ok (.aload_n 0, 1) := by decide +kernel
theorem sbb_d1 : decode jdk_42_method_151_code 1 = .ok (.invokespecial 1, 3) := by decide +kernel
theorem sbb_d4 : decode jdk_42_method_151_code 4 = .ok (.aload_n 0, 1) := by decide +kernel
theorem sbb_d5 : decode jdk_42_method_151_code 5 = .ok (.aload_n 1, 1) := by decide +kernel
theorem sbb_d6 : decode jdk_42_method_151_code 6 = .ok (.putfield 9, 3) := by decide +kernel
theorem sbb_d9 : decode jdk_42_method_151_code 9 = .ok (.aload_n 0, 1) := by decide +kernel
theorem sbb_d10 : decode jdk_42_method_151_code 10 = .ok (.iload_n 2, 1) := by decide +kernel
theorem sbb_d11 : decode jdk_42_method_151_code 11 = .ok (.putfield 15, 3) := by decide +kernel
theorem sbb_d14 : decode jdk_42_method_151_code 14 = .ok (.return_, 1) := by decide +kernel
theorem sbb_pn : plainName "java/lang/String" = true := by first | (simp [plainName, overriddenIn]; done) | decide +kernel
theorem sbb_ef (m : MethodId) (x0 : Addr) (x1 : Addr) (x2 : Int32) : entryFrame m #[(.ref x0), (.ref x1), (.int x2)] 3 = mkF m 0 #[.val (.ref x0), .val (.ref x1), .val (.int x2)] [] := by first | (simp [entryFrame, mkF, argsToLocals, Value.category]; done) | rfl
set_option maxRecDepth 65536 in
set_option maxHeartbeats 40000000 in
theorem rm_sbb (l : Launch) (Z : State) (a0 : Array Value) (hw : ∀ d ∈ tables_1, d.before a0 Z = true) (ws : List Jvm.Cond) (a1 : Addr) (t1 : Addr) (k1 : ClassId) (bs : List Int32) (h0 : Heap) (n0 : Nat) (Z0 : n0 ≤ h0.size) (OL : Old Z n0 h0) (E1 : Exa Z h0 a1 "java/lang/String") (F1 : Fld Z h0 a1 "java/lang/String" "coder" "B" (.int 0)) (F2 : Fld Z h0 a1 "java/lang/String" "value" "[B" .null) (g1 : n0 ≤ a1) (V1 : Arv Z h0 t1 k1 .byte (Int32.ofNat bs.length) (bs.map Value.int) (.int 0)) (m1 : bs.length ≤ 4000) :
    MetFree l (⟨"java/lang/String", "<init>", "([BB)V"⟩ : MethodName) (head1 (Jvm.Cond.code (⟨"java/lang/String", "<init>", "([BB)V"⟩ : MethodName) jdk_42_method_151_code 3 none :: ws) ({ frames := 1, cells := 0, slots := 0, locals := 14 } : Room)) (fun a U => a = #[(.ref a1), (.ref t1), (.int (0 : Int32))] ∧ Z.Warmed39 U.vm ∧ U.heap = h0) (fun _ _ _ _ _ => True) (fun _ U o U' => OwnEnd U (fun v h L => v = none ∧ Fr n0 L ∧ Keep h0 h [a1] ∧ OwnStr Z h a1 bs) ({ frames := 1, cells := 0, slots := 0, locals := 14 } : Room).cells ({ frames := 1, cells := 0, slots := 0, locals := 14 } : Room).slots o U') := by
  refine MetFree.of_bodySF (plainFor_of_name sbb_pn) hisR ?_
  intro p e s m args below meth c s₁ Bd hml0 hP hK
  obtain ⟨rfl, hZ, hh⟩ := hP
  have hx := Bd.exec
  have hby := Bd.bytes
  have hml : c.maxLocals = 3 := hml0
  have hown : s.vm.findClass "java/lang/String" = some m.cls := findClass_of_methodNamed Bd.named
  have hnm := (name_of_methodNamed Bd.named Bd.method).1
  have X0 : Stand p l e ({ frames := 1, cells := 0, slots := 0, locals := 14 } : Room) s m #[(.ref a1), (.ref t1), (.int (0 : Int32))] below meth c s₁ [] 0 0 := Stand.of_body Bd
  have e0 : s₁.heap = h0 := by rw [← hh, Bd.state]; rfl
  have N0 := Fr.nil n0
  have KP0 := Keep.refl h0 [a1]
  refine own_go (Q := (OwnEnd s (fun v h L => v = none ∧ Fr n0 L ∧ Keep h0 h [a1] ∧ OwnStr Z h a1 bs) ({ frames := 1, cells := 0, slots := 0, locals := 14 } : Room).cells ({ frames := 1, cells := 0, slots := 0, locals := 14 } : Room).slots)) ?_
  refine own_back (fun t k => castTop (sbb_ef m a1 t1 (0 : Int32)) k) ?_
  show OwnGo p e below (s₁.setTop (mkF m 0 #[.val (.ref a1), .val (.ref t1), .val (.int (0 : Int32))] [])) _
  refine own_back (fun t k => XS.aloadN X0.here hx rfl (hb hby sbb_d0) rfl rfl k) ?_
  show OwnGo p e below (s₁.setTop (mkF m 1 #[.val (.ref a1), .val (.ref t1), .val (.int (0 : Int32))] [(.ref a1)])) _
  obtain ⟨T209, X209, e209, st209⟩ := initO X0 hx hZ hown (hw _ (List.mem_of_getElem? (i := 19) rfl)) (hw _ (List.mem_of_getElem? (i := 20) rfl)) (hw _ (List.mem_of_getElem? (i := 21) rfl)) e0 (g := (mkF m 1 #[.val (.ref a1), .val (.ref t1), .val (.int (0 : Int32))] [(.ref a1)])) rfl (by rw [hml]; rfl) rfl (hb hby sbb_d1) (by decide) (W := 0) (by show 2 * 0 + _ ≤ _; exact Nat.le_of_eq rfl) (by decide)
  refine own_back st209 ?_
  show OwnGo p e below (T209.setTop (mkF m 4 #[.val (.ref a1), .val (.ref t1), .val (.int (0 : Int32))] [])) _
  refine own_back (fun t k => XS.aloadN X209.here hx rfl (hb hby sbb_d4) rfl rfl k) ?_
  show OwnGo p e below (T209.setTop (mkF m 5 #[.val (.ref a1), .val (.ref t1), .val (.int (0 : Int32))] [(.ref a1)])) _
  refine own_back (fun t k => XS.aloadN X209.here hx rfl (hb hby sbb_d5) rfl rfl k) ?_
  show OwnGo p e below (T209.setTop (mkF m 6 #[.val (.ref a1), .val (.ref t1), .val (.int (0 : Int32))] [(.ref t1), (.ref a1)])) _
  obtain ⟨T210, h210, X210, e210, W210, st210⟩ := putF X209 hx hZ hown (host := "") (Or.inl (hw _ (List.mem_of_getElem? (i := 28) rfl))) Via.refl e209 F2 E1 (Or.inr ⟨(hw _ (List.mem_of_getElem? (i := 24) rfl)), rfl, hnm⟩) (hw _ (List.mem_of_getElem? (i := 10) rfl)) (ty := (.array .byte)) (by decide) rfl rfl (g := (mkF m 6 #[.val (.ref a1), .val (.ref t1), .val (.int (0 : Int32))] [(.ref t1), (.ref a1)])) rfl rfl (hb hby sbb_d6)
  have O211 := OL.wr W210 g1
  have KP212 := KP0.wr W210 (Or.inl (List.mem_of_getElem? (i := 0) rfl))
  have Zs213 := Nat.le_trans Z0 (Keep.of_wr W210).1
  have f214 := E1.wr W210
  have f215 := F1.other W210 (Or.inr (slot_ne (Or.inr (hw _ (List.mem_of_getElem? (i := 25) rfl))) (Or.inr (hw _ (List.mem_of_getElem? (i := 24) rfl))) (by decide) (t := .byte) (t' := (.array .byte)) (by decide) (by decide)))
  have f216 := V1.other W210 (own_exaarv V1 E1 (hw _ (List.mem_of_getElem? (i := 10) rfl)))
  have F217 := F2.same W210
  have N218 := Fr.snoc X210 N0 g1
  refine own_back st210 ?_
  show OwnGo p e below (T210.setTop (mkF m 9 #[.val (.ref a1), .val (.ref t1), .val (.int (0 : Int32))] [])) _
  refine own_back (fun t k => XS.aloadN X210.here hx rfl (hb hby sbb_d9) rfl rfl k) ?_
  show OwnGo p e below (T210.setTop (mkF m 10 #[.val (.ref a1), .val (.ref t1), .val (.int (0 : Int32))] [(.ref a1)])) _
  refine own_back (fun t k => XS.iloadN X210.here hx rfl (hb hby sbb_d10) rfl k) ?_
  show OwnGo p e below (T210.setTop (mkF m 11 #[.val (.ref a1), .val (.ref t1), .val (.int (0 : Int32))] [(.int (0 : Int32)), (.ref a1)])) _
  obtain ⟨T219, h219, X219, e219, W219, st219⟩ := putF X210 hx hZ hown (host := "") (Or.inl (hw _ (List.mem_of_getElem? (i := 29) rfl))) Via.refl e210 f215 f214 (Or.inr ⟨(hw _ (List.mem_of_getElem? (i := 25) rfl)), rfl, hnm⟩) (hw _ (List.mem_of_getElem? (i := 10) rfl)) (ty := .byte) (by decide) rfl rfl (g := (mkF m 11 #[.val (.ref a1), .val (.ref t1), .val (.int (0 : Int32))] [(.int (0 : Int32)), (.ref a1)])) rfl rfl (hb hby sbb_d11)
  have O220 := O211.wr W219 g1
  have KP221 := KP212.wr W219 (Or.inl (List.mem_of_getElem? (i := 0) rfl))
  have Zs222 := Nat.le_trans Zs213 (Keep.of_wr W219).1
  have f223 := f214.wr W219
  have f224 := f216.other W219 (own_exaarv f216 f214 (hw _ (List.mem_of_getElem? (i := 10) rfl)))
  have f225 := F217.other W219 (Or.inr (slot_ne (Or.inr (hw _ (List.mem_of_getElem? (i := 24) rfl))) (Or.inr (hw _ (List.mem_of_getElem? (i := 25) rfl))) (by decide) (t := (.array .byte)) (t' := .byte) (by decide) (by decide)))
  have F226 := f215.same W219
  have N227 := Fr.snoc X219 N218 g1
  refine own_back st219 ?_
  show OwnGo p e below (T219.setTop (mkF m 14 #[.val (.ref a1), .val (.ref t1), .val (.int (0 : Int32))] [])) _
  refine own_retV X219 hx Bd.notSynchronized Bd.returns (hb hby sbb_d14) e219 (Nat.le_of_ble_eq_true rfl) (Nat.le_of_ble_eq_true rfl) ?_
  exact ⟨rfl, N227, KP221, t1, k1, f223, F226, f225, f224, m1⟩
theorem ns0_d0 : decode jdk_43_method_47_code 0 = .ok (.iload_n 2, 1) := by decide +kernel
theorem ns0_d1 : decode jdk_43_method_47_code 1 = .ok (.ifCond .ne 6, 3) := by decide +kernel
theorem ns0_d4 : decode jdk_43_method_47_code 4 = .ok (.ldc 151, 2) := by decide +kernel
theorem ns0_d6 : decode jdk_43_method_47_code 6 = .ok (.areturn, 1) := by decide +kernel
theorem ns0_pn : plainName "java/lang/StringLatin1" = true := by first | (simp [plainName, overriddenIn]; done) | decide +kernel
theorem ns0_ef (m : MethodId) (x0 : Addr) (x1 : Int32) (x2 : Int32) : entryFrame m #[(.ref x0), (.int x1), (.int x2)] 3 = mkF m 0 #[.val (.ref x0), .val (.int x1), .val (.int x2)] [] := by first | (simp [entryFrame, mkF, argsToLocals, Value.category]; done) | rfl
set_option maxRecDepth 65536 in
set_option maxHeartbeats 40000000 in
theorem rm_ns0 (l : Launch) (Z : State) (a0 : Array Value) (hw : ∀ d ∈ tables_1, d.before a0 Z = true) (ws : List Jvm.Cond) (t1 : Addr) (k1 : ClassId) (bs : List Int32) (su : Nat) (mu : Nat) (h0 : Heap) (n0 : Nat) (Z0 : n0 ≤ h0.size) (OL : Old Z n0 h0) (h0m : mu = 0) :
    MetFree l (⟨"java/lang/StringLatin1", "newString", "([BII)Ljava/lang/String;"⟩ : MethodName) (head1 (Jvm.Cond.code (⟨"java/lang/StringLatin1", "newString", "([BII)Ljava/lang/String;"⟩ : MethodName) jdk_43_method_47_code 3 (some (.object "java/lang/String")) :: ws) ({ frames := 1, cells := 4, slots := 8, locals := 12 } : Room)) (fun a U => a = #[(.ref t1), (.int (Int32.ofNat su)), (.int (Int32.ofNat mu))] ∧ Z.Warmed39 U.vm ∧ U.heap = h0 ∧ CHv Z own_EL U.vm h0 ∧ ∀ x ∈ ([] : List Addr), Safe Z own_EL U.vm h0 x) (fun _ _ _ _ _ => True) (fun _ U o U' => OwnEndW Z own_EL U (fun v h L => ∃ a, v = some (.ref a) ∧ Fr n0 L ∧ Ext h0 h ∧ OwnStr Z h a ((bs.drop su).take mu)) ({ frames := 1, cells := 4, slots := 8, locals := 12 } : Room).cells ({ frames := 1, cells := 4, slots := 8, locals := 12 } : Room).slots o U') := by
  refine MetFree.of_bodySF (plainFor_of_name ns0_pn) hisR ?_
  intro p e s m args below meth c s₁ Bd hml0 hP hK
  obtain ⟨rfl, hZ, hh, hCH, hSL⟩ := hP
  have hx := Bd.exec
  have hby := Bd.bytes
  have hml : c.maxLocals = 3 := hml0
  have hown : s.vm.findClass "java/lang/StringLatin1" = some m.cls := findClass_of_methodNamed Bd.named
  have hnm := (name_of_methodNamed Bd.named Bd.method).1
  have X0 : Stand p l e ({ frames := 1, cells := 4, slots := 8, locals := 12 } : Room) (s.setVm s.vm) m #[(.ref t1), (.int (Int32.ofNat su)), (.int (Int32.ofNat mu))] below meth c s₁ [] 0 0 := Stand.of_body Bd
  have e0 : s₁.heap = h0 := by rw [← hh, Bd.state]; rfl
  have N0 := Fr.nil n0
  have KP0 := Keep.refl h0 []
  have hown : (s.setVm s.vm).vm.findClass "java/lang/StringLatin1" = some m.cls := hown
  have hZ : Z.Warmed39 (s.setVm s.vm).vm := hZ
  have hS0 : s.Since s.vm 0 := (State.WarmedH.refl s).since 0
  have hk0 : 0 ≤ h0.size := Nat.zero_le _
  have CR0 : CHr Z own_EL s.vm h0 s.vm h0 := CHr.refl hCH
  have hEL := own_EW hw
  refine own_go (Q := (OwnEndW Z own_EL s (fun v h L => ∃ a, v = some (.ref a) ∧ Fr n0 L ∧ Ext h0 h ∧ OwnStr Z h a ((bs.drop su).take mu)) ({ frames := 1, cells := 4, slots := 8, locals := 12 } : Room).cells ({ frames := 1, cells := 4, slots := 8, locals := 12 } : Room).slots)) ?_
  refine own_back (fun t k => castTop (ns0_ef m t1 (Int32.ofNat su) (Int32.ofNat mu)) k) ?_
  show OwnGo p e below (s₁.setTop (mkF m 0 #[.val (.ref t1), .val (.int (Int32.ofNat su)), .val (.int (Int32.ofNat mu))] [])) _
  refine own_back (fun t k => XS.iloadN X0.here hx rfl (hb hby ns0_d0) rfl k) ?_
  show OwnGo p e below (s₁.setTop (mkF m 1 #[.val (.ref t1), .val (.int (Int32.ofNat su)), .val (.int (Int32.ofNat mu))] [(.int (Int32.ofNat mu))])) _
  refine own_back (fun t k => XS.ifNo X0.here hx rfl (hb hby ns0_d1) rfl (Jvm.Free.XT.i0_ne_f (by rw [h0m]; rfl)) k) ?_
  show OwnGo p e below (s₁.setTop (mkF m 4 #[.val (.ref t1), .val (.int (Int32.ofNat su)), .val (.int (Int32.ofNat mu))] [])) _
  obtain ⟨a228, T228, h228, k1228, t228, kb228, X228, e228, E228, hS228, hk228, hZ228, hown228, EX228, FC228, FV228, AV228, la228, lb228, CRl228, hLit228, sx228, st228⟩ := ldcCH X0 hx hZ hown (hw _ (List.mem_of_getElem? (i := 122) rfl)) (own_wS hw) e0 hS0 hk0 hEL (List.mem_of_getElem? (i := 1) rfl) CR0.1 (vs := []) (z := 0) ⟨by decide, by decide⟩ (by decide) (by decide) (g := (mkF m 4 #[.val (.ref t1), .val (.int (Int32.ofNat su)), .val (.int (Int32.ofNat mu))] [])) rfl (hb hby ns0_d4) (n := 0) (Nat.le_of_ble_eq_true rfl) (by decide) (Nat.le_of_ble_eq_true rfl) (Nat.le_of_ble_eq_true rfl)
  have O229 := OL.ext E228
  have KP230 := KP0.ext E228
  have Zs231 := Nat.le_trans Z0 E228.1
  have CR232 := CR0.trans CRl228
  refine own_back st228 ?_
  show OwnGo p e below (T228.setTop (mkF m 6 #[.val (.ref t1), .val (.int (Int32.ofNat su)), .val (.int (Int32.ofNat mu))] [(.ref a228)])) _
  refine own_retAW X228 hx Bd.notSynchronized Bd.returns rfl rfl hS228 hk228 hZ228 hEL (hh ▸ CR232) (hb hby ns0_d6) e228 (Nat.le_of_ble_eq_true rfl) (Nat.le_of_ble_eq_true rfl) ?_
  exact ⟨_, rfl, N0, own_ext KP230, by rw [h0m, List.take_zero]; exact ⟨t228, _, EX228, FC228, FV228, AV228, Nat.le_of_ble_eq_true rfl⟩⟩
theorem ns1_d0 : decode jdk_43_method_47_code 0 = .ok (.iload_n 2, 1) := by decide +kernel
theorem ns1_d1 : decode jdk_43_method_47_code 1 = .ok (.ifCond .ne 6, 3) := by decide +kernel
theorem ns1_d7 : decode jdk_43_method_47_code 7 = .ok (.new 1, 3) := by decide +kernel
theorem ns1_d10 : decode jdk_43_method_47_code 10 = .ok (.dup, 1) := by decide +kernel
theorem ns1_d11 : decode jdk_43_method_47_code 11 = .ok (.aload_n 0, 1) := by decide +kernel
theorem ns1_d12 : decode jdk_43_method_47_code 12 = .ok (.iload_n 1, 1) := by decide +kernel
theorem ns1_d13 : decode jdk_43_method_47_code 13 = .ok (.iload_n 1, 1) := by decide +kernel
theorem ns1_d14 : decode jdk_43_method_47_code 14 = .ok (.iload_n 2, 1) := by decide +kernel
theorem ns1_d15 : decode jdk_43_method_47_code 15 = .ok (.iadd, 1) := by decide +kernel
theorem ns1_d16 : decode jdk_43_method_47_code 16 = .ok (.invokestatic 232, 3) := by decide +kernel
theorem ns1_d19 : decode jdk_43_method_47_code 19 = .ok (.iconst 0, 1) := by decide +kernel
theorem ns1_d20 : decode jdk_43_method_47_code 20 = .ok (.invokespecial 112, 3) := by decide +kernel
theorem ns1_d23 : decode jdk_43_method_47_code 23 = .ok (.areturn, 1) := by decide +kernel
theorem ns1_pn : plainName "java/lang/StringLatin1" = true := by first | (simp [plainName, overriddenIn]; done) | decide +kernel
theorem ns1_pd0 : parseMethodDescriptor "([BII)[B" = some ⟨[(.array .byte), .int, .int], some (.array .byte)⟩ := by decide +kernel
theorem ns1_pd1 : parseMethodDescriptor "([BB)V" = some ⟨[(.array .byte), .byte], none⟩ := by decide +kernel
theorem ns1_ef (m : MethodId) (x0 : Addr) (x1 : Int32) (x2 : Int32) : entryFrame m #[(.ref x0), (.int x1), (.int x2)] 3 = mkF m 0 #[.val (.ref x0), .val (.int x1), .val (.int x2)] [] := by first | (simp [entryFrame, mkF, argsToLocals, Value.category]; done) | rfl
set_option maxRecDepth 65536 in
set_option maxHeartbeats 40000000 in
theorem rm_ns1 (l : Launch) (Z : State) (a0 : Array Value) (hw : ∀ d ∈ tables_1, d.before a0 Z = true) (ws : List Jvm.Cond) (t1 : Addr) (k1 : ClassId) (bs : List Int32) (su : Nat) (mu : Nat) (h0 : Heap) (n0 : Nat) (Z0 : n0 ≤ h0.size) (OL : Old Z n0 h0) (V1 : Arv Z h0 t1 k1 .byte (Int32.ofNat bs.length) (bs.map Value.int) (.int 0)) (m1 : bs.length ≤ 4000) (hmu : mu ≤ 4) (hsu : su + mu ≤ bs.length) (hne : ¬ (su = 0 ∧ su + mu = bs.length)) (h0m : ¬ mu = 0) :
    MetFree l (⟨"java/lang/StringLatin1", "newString", "([BII)Ljava/lang/String;"⟩ : MethodName) (head1 (Jvm.Cond.code (⟨"java/lang/StringLatin1", "newString", "([BII)Ljava/lang/String;"⟩ : MethodName) jdk_43_method_47_code 3 (some (.object "java/lang/String")) :: ws) ({ frames := 3, cells := 2, slots := 8, locals := 110 } : Room)) (fun a U => a = #[(.ref t1), (.int (Int32.ofNat su)), (.int (Int32.ofNat mu))] ∧ Z.Warmed39 U.vm ∧ U.heap = h0) (fun _ _ _ _ _ => True) (fun _ U o U' => OwnEnd U (fun v h L => ∃ a, v = some (.ref a) ∧ Fr n0 L ∧ Ext h0 h ∧ OwnStr Z h a ((bs.drop su).take mu)) ({ frames := 3, cells := 2, slots := 8, locals := 110 } : Room).cells ({ frames := 3, cells := 2, slots := 8, locals := 110 } : Room).slots o U') := by
  refine MetFree.of_bodySF (plainFor_of_name ns1_pn) hisR ?_
  intro p e s m args below meth c s₁ Bd hml0 hP hK
  obtain ⟨rfl, hZ, hh⟩ := hP
  have hx := Bd.exec
  have hby := Bd.bytes
  have hml : c.maxLocals = 3 := hml0
  have hown : s.vm.findClass "java/lang/StringLatin1" = some m.cls := findClass_of_methodNamed Bd.named
  have hnm := (name_of_methodNamed Bd.named Bd.method).1
  have X0 : Stand p l e ({ frames := 3, cells := 2, slots := 8, locals := 110 } : Room) s m #[(.ref t1), (.int (Int32.ofNat su)), (.int (Int32.ofNat mu))] below meth c s₁ [] 0 0 := Stand.of_body Bd
  have e0 : s₁.heap = h0 := by rw [← hh, Bd.state]; rfl
  have N0 := Fr.nil n0
  have KP0 := Keep.refl h0 []
  refine own_go (Q := (OwnEnd s (fun v h L => ∃ a, v = some (.ref a) ∧ Fr n0 L ∧ Ext h0 h ∧ OwnStr Z h a ((bs.drop su).take mu)) ({ frames := 3, cells := 2, slots := 8, locals := 110 } : Room).cells ({ frames := 3, cells := 2, slots := 8, locals := 110 } : Room).slots)) ?_
  refine own_back (fun t k => castTop (ns1_ef m t1 (Int32.ofNat su) (Int32.ofNat mu)) k) ?_
  show OwnGo p e below (s₁.setTop (mkF m 0 #[.val (.ref t1), .val (.int (Int32.ofNat su)), .val (.int (Int32.ofNat mu))] [])) _
  refine own_back (fun t k => XS.iloadN X0.here hx rfl (hb hby ns1_d0) rfl k) ?_
  show OwnGo p e below (s₁.setTop (mkF m 1 #[.val (.ref t1), .val (.int (Int32.ofNat su)), .val (.int (Int32.ofNat mu))] [(.int (Int32.ofNat mu))])) _
  refine own_back (fun t k => XS.ifYes X0.here hx rfl (pc0 := 1) (pc' := 7) rfl (hb hby ns1_d1) rfl (Jvm.Free.XT.i0_ne_t (fun q => h0m (own_eqi (n := 0) (by omega) (by omega) q))) (by decide) (by decide) k) ?_
  show OwnGo p e below (s₁.setTop (mkF m 7 #[.val (.ref t1), .val (.int (Int32.ofNat su)), .val (.int (Int32.ofNat mu))] [])) _
  obtain ⟨T233, h233, X233, e233, E233, A233, D233, -, st233⟩ := newO X0 hx hZ hown (hw _ (List.mem_of_getElem? (i := 99) rfl)) (hw _ (List.mem_of_getElem? (i := 10) rfl)) (hw _ (List.mem_of_getElem? (i := 11) rfl)) e0 (g := (mkF m 7 #[.val (.ref t1), .val (.int (Int32.ofNat su)), .val (.int (Int32.ofNat mu))] [])) rfl (hb hby ns1_d7) (Nat.le_of_ble_eq_true rfl) (Nat.le_of_ble_eq_true rfl)
  obtain ⟨b233, g233⟩ : ∃ z, z = h0.size := ⟨_, rfl⟩
  have ge234 : n0 ≤ b233 := Nat.le_trans Z0 (Nat.le_of_eq g233.symm)
  have sz235 : h0.size ≤ b233 := Nat.le_trans KP0.1 (Nat.le_of_eq g233.symm)
  rw [← g233] at A233 D233 st233
  have O236 := OL.ext E233
  have KP237 := KP0.ext E233
  have Zs238 := Nat.le_trans Z0 E233.1
  have f239 := V1.ext E233
  have F240 : Fld Z h233 b233 "java/lang/String" "value" "[B" .null := D233 (Or.inr (hw _ (List.mem_of_getElem? (i := 24) rfl))) (ty := (.array .byte)) (by decide)
  have F241 : Fld Z h233 b233 "java/lang/String" "coder" "B" (.int (0 : Int32)) := D233 (Or.inr (hw _ (List.mem_of_getElem? (i := 25) rfl))) (ty := .byte) (by decide)
  refine own_back st233 ?_
  show OwnGo p e below (T233.setTop (mkF m 10 #[.val (.ref t1), .val (.int (Int32.ofNat su)), .val (.int (Int32.ofNat mu))] [(.ref b233)])) _
  refine own_back (fun t k => XS.dup X233.here hx rfl (hb hby ns1_d10) rfl rfl k) ?_
  show OwnGo p e below (T233.setTop (mkF m 11 #[.val (.ref t1), .val (.int (Int32.ofNat su)), .val (.int (Int32.ofNat mu))] [(.ref b233), (.ref b233)])) _
  refine own_back (fun t k => XS.aloadN X233.here hx rfl (hb hby ns1_d11) rfl rfl k) ?_
  show OwnGo p e below (T233.setTop (mkF m 12 #[.val (.ref t1), .val (.int (Int32.ofNat su)), .val (.int (Int32.ofNat mu))] [(.ref t1), (.ref b233), (.ref b233)])) _
  refine own_back (fun t k => XS.iloadN X233.here hx rfl (hb hby ns1_d12) rfl k) ?_
  show OwnGo p e below (T233.setTop (mkF m 13 #[.val (.ref t1), .val (.int (Int32.ofNat su)), .val (.int (Int32.ofNat mu))] [(.int (Int32.ofNat su)), (.ref t1), (.ref b233), (.ref b233)])) _
  refine own_back (fun t k => XS.iloadN X233.here hx rfl (hb hby ns1_d13) rfl k) ?_
  show OwnGo p e below (T233.setTop (mkF m 14 #[.val (.ref t1), .val (.int (Int32.ofNat su)), .val (.int (Int32.ofNat mu))] [(.int (Int32.ofNat su)), (.int (Int32.ofNat su)), (.ref t1), (.ref b233), (.ref b233)])) _
  refine own_back (fun t k => XS.iloadN X233.here hx rfl (hb hby ns1_d14) rfl k) ?_
  show OwnGo p e below (T233.setTop (mkF m 15 #[.val (.ref t1), .val (.int (Int32.ofNat su)), .val (.int (Int32.ofNat mu))] [(.int (Int32.ofNat mu)), (.int (Int32.ofNat su)), (.int (Int32.ofNat su)), (.ref t1), (.ref b233), (.ref b233)])) _
  refine own_back (fun t k => XS.iadd X233.here hx rfl (hb hby ns1_d15) rfl k) ?_
  show OwnGo p e below (T233.setTop (mkF m 16 #[.val (.ref t1), .val (.int (Int32.ofNat su)), .val (.int (Int32.ofNat mu))] [(.int ((Int32.ofNat su) + (Int32.ofNat mu))), (.int (Int32.ofNat su)), (.ref t1), (.ref b233), (.ref b233)])) _
  rw [show ((Int32.ofNat su) + (Int32.ofNat mu)) = (Int32.ofNat (su + mu)) from (Int32.ofNat_add su mu).symm]
  show OwnGo p e below (T233.setTop (mkF m 16 #[.val (.ref t1), .val (.int (Int32.ofNat su)), .val (.int (Int32.ofNat mu))] [(.int (Int32.ofNat (su + mu))), (.int (Int32.ofNat su)), (.ref t1), (.ref b233), (.ref b233)])) _
  obtain ⟨_, _, ⟨T242, L242, k242, n242⟩, -, X242, ⟨Lc242, hQ242, l242, y242, z242⟩, st242⟩ := Jvm.LawKit.callS X233 hx (y := (⟨"java/util/Arrays", "copyOfRange", "([BII)[B"⟩ : MethodName)) hown (mvT hZ (hw _ (List.mem_of_getElem? (i := 100) rfl))) (mvT hZ (hw _ (List.mem_of_getElem? (i := 101) rfl))) (mvT hZ (hw _ (List.mem_of_getElem? (i := 102) rfl))) (mvT hZ (hw _ (List.mem_of_getElem? (i := 103) rfl))) (by decide) (own_backN (W := 2) (rm_cor l Z a0 hw [] t1 k1 bs su mu h233 n0 Zs238 O236 f239 m1 hmu hsu hne) hZ (hw _ (List.mem_of_getElem? (i := 103) rfl)) (hw _ (List.mem_of_getElem? (i := 102) rfl)) (by decide) (by decide)) (g := (mkF m 16 #[.val (.ref t1), .val (.int (Int32.ofNat su)), .val (.int (Int32.ofNat mu))] [(.int (Int32.ofNat (su + mu))), (.int (Int32.ofNat su)), (.ref t1), (.ref b233), (.ref b233)])) rfl (by rw [hml]; rfl) (argsL := [(.ref t1), (.int (Int32.ofNat su)), (.int (Int32.ofNat (su + mu)))]) (rest := [(.ref b233), (.ref b233)]) (lenOf ns1_pd0 rfl) rfl (by show 2 * 0 + _ ≤ _; exact Nat.le_of_eq rfl) (hb hby ns1_d16) (fun _ _ => ⟨rfl, e233, Nat.le_of_ble_eq_true rfl, Nat.le_of_ble_eq_true rfl⟩)
  dsimp only [Pt.U, Pt.locs, Pt.cells, Pt.slots] at X242 l242 y242 z242 st242 hQ242
  subst l242 y242 z242
  obtain ⟨bq242, kq242, rfl, N242q, E242, g242, z242, V242⟩ := hQ242
  refine own_back st242 ?_
  have N242 := Fr.app N0 N242q
  have O243 := O236.ext E242
  have KP244 := KP237.ext E242
  have Zs245 := Nat.le_trans Zs238 E242.1
  have f246 := f239.ext E242
  have f247 := A233.ext E242
  have f248 := F240.ext E242
  have f249 := F241.ext E242
  show OwnGo p e below (T242.setTop (mkF m 19 #[.val (.ref t1), .val (.int (Int32.ofNat su)), .val (.int (Int32.ofNat mu))] [(.ref bq242), (.ref b233), (.ref b233)])) _
  refine own_back (fun t k => XS.iconst X242.here hx rfl (hb hby ns1_d19) k) ?_
  show OwnGo p e below (T242.setTop (mkF m 20 #[.val (.ref t1), .val (.int (Int32.ofNat su)), .val (.int (Int32.ofNat mu))] [(.int (0 : Int32)), (.ref bq242), (.ref b233), (.ref b233)])) _
  have ll250 : ((bs.drop su).take mu).length = mu := by rw [List.length_take, List.length_drop]; omega
  obtain ⟨_, _, ⟨T251, L251, k251, n251⟩, -, X251, ⟨Lc251, hQ251, l251, y251, z251⟩, st251⟩ := X242.specialBack hx (y := (⟨"java/lang/String", "<init>", "([BB)V"⟩ : MethodName)) rfl hown (mvT hZ (hw _ (List.mem_of_getElem? (i := 118) rfl))) (mvT hZ (hw _ (List.mem_of_getElem? (i := 119) rfl))) (mvT hZ (hw _ (List.mem_of_getElem? (i := 120) rfl))) (by decide) (own_backN (W := 1) (rm_sbb l Z a0 hw [] b233 bq242 kq242 ((bs.drop su).take mu) T242.heap n0 Zs245 O243 f247 f249 f248 ge234 (by rw [ll250]; exact V242) (by omega)) hZ (hw _ (List.mem_of_getElem? (i := 120) rfl)) (hw _ (List.mem_of_getElem? (i := 11) rfl)) (by decide) (by decide)) (g := (mkF m 20 #[.val (.ref t1), .val (.int (Int32.ofNat su)), .val (.int (Int32.ofNat mu))] [(.int (0 : Int32)), (.ref bq242), (.ref b233), (.ref b233)])) rfl (by rw [hml]; rfl) (Steps.refl _) (a := b233) (argsL := [(.ref bq242), (.int (0 : Int32))]) (rest := [(.ref b233)]) (lenOf ns1_pd1 rfl) rfl (by show 2 * 0 + _ ≤ _; exact Nat.le_of_eq rfl) (hb hby ns1_d20) (fun _ _ => ⟨rfl, rfl, Nat.le_of_ble_eq_true rfl, Nat.le_of_ble_eq_true rfl⟩)
  dsimp only [Pt.U, Pt.locs, Pt.cells, Pt.slots] at X251 l251 y251 z251 st251 hQ251
  subst l251 y251 z251
  obtain ⟨rfl, N251q, K251, B251⟩ := hQ251
  refine own_seq st251 ?_
  have N251 := Fr.app N242 N251q
  have O252 := O243.keep K251 (allS ge234 all0)
  have KP253 := KP244.trans K251 (allS (Or.inr sz235) all0)
  have Zs254 := Nat.le_trans Zs245 K251.1
  have f255 := f246.keep K251 (ninS (Nat.ne_of_lt (Nat.lt_of_lt_of_le V1.lt (Nat.le_of_eq g233.symm))) nin0)
  have f256 := f247.keep K251
  show OwnGo p e below (T251.setTop (mkF m 23 #[.val (.ref t1), .val (.int (Int32.ofNat su)), .val (.int (Int32.ofNat mu))] [(.ref b233)])) _
  refine own_retA X251 hx Bd.notSynchronized Bd.returns rfl rfl (hb hby ns1_d23) rfl (Nat.le_of_ble_eq_true rfl) (Nat.le_of_ble_eq_true rfl) ?_
  exact ⟨_, rfl, N251, own_ext KP253, B251⟩
theorem own_all {Z : State} {h : Heap} {a : Addr} (bs : List Int32) (su mu : Nat) (h1 : su = 0) (h2 : su + mu = bs.length) (B : OwnStr Z h a bs) : OwnStr Z h a ((bs.drop su).take mu) := by
  subst h1
  rw [List.drop_zero, List.take_of_length_le (by omega)]
  exact B
theorem sub_d0 : decode jdk_42_method_92_code 0 = .ok (.aload_n 0, 1) := by decide +kernel
theorem sub_d1 : decode jdk_42_method_92_code 1 = .ok (.invokevirtual 505, 3) := by decide +kernel
theorem sub_d4 : decode jdk_42_method_92_code 4 = .ok (.istore_n 3, 1) := by decide +kernel
theorem sub_d5 : decode jdk_42_method_92_code 5 = .ok (.iload_n 1, 1) := by decide +kernel
theorem sub_d6 : decode jdk_42_method_92_code 6 = .ok (.iload_n 2, 1) := by decide +kernel
theorem sub_d7 : decode jdk_42_method_92_code 7 = .ok (.iload_n 3, 1) := by decide +kernel
theorem sub_d8 : decode jdk_42_method_92_code 8 = .ok (.invokestatic 521, 3) := by decide +kernel
theorem sub_d11 : decode jdk_42_method_92_code 11 = .ok (.iload_n 1, 1) := by decide +kernel
theorem sub_d12 : decode jdk_42_method_92_code 12 = .ok (.ifCond .ne 10, 3) := by decide +kernel
theorem sub_d15 : decode jdk_42_method_92_code 15 = .ok (.iload_n 2, 1) := by decide +kernel
theorem sub_d16 : decode jdk_42_method_92_code 16 = .ok (.iload_n 3, 1) := by decide +kernel
theorem sub_d17 : decode jdk_42_method_92_code 17 = .ok (.if_icmp .ne 5, 3) := by decide +kernel
theorem sub_d20 : decode jdk_42_method_92_code 20 = .ok (.aload_n 0, 1) := by decide +kernel
theorem sub_d21 : decode jdk_42_method_92_code 21 = .ok (.areturn, 1) := by decide +kernel
theorem sub_d22 : decode jdk_42_method_92_code 22 = .ok (.iload_n 2, 1) := by decide +kernel
theorem sub_d23 : decode jdk_42_method_92_code 23 = .ok (.iload_n 1, 1) := by decide +kernel
theorem sub_d24 : decode jdk_42_method_92_code 24 = .ok (.isub, 1) := by decide +kernel
theorem sub_d25 : decode jdk_42_method_92_code 25 = .ok (.istore 4, 2) := by decide +kernel
theorem sub_d27 : decode jdk_42_method_92_code 27 = .ok (.aload_n 0, 1) := by decide +kernel
theorem sub_d28 : decode jdk_42_method_92_code 28 = .ok (.invokevirtual 492, 3) := by decide +kernel
theorem sub_d31 : decode jdk_42_method_92_code 31 = .ok (.ifCond .eq 16, 3) := by decide +kernel
theorem sub_d34 : decode jdk_42_method_92_code 34 = .ok (.aload_n 0, 1) := by decide +kernel
theorem sub_d35 : decode jdk_42_method_92_code 35 = .ok (.getfield 9, 3) := by decide +kernel
theorem sub_d38 : decode jdk_42_method_92_code 38 = .ok (.iload_n 1, 1) := by decide +kernel
theorem sub_d39 : decode jdk_42_method_92_code 39 = .ok (.iload 4, 2) := by decide +kernel
theorem sub_d41 : decode jdk_42_method_92_code 41 = .ok (.invokestatic 685, 3) := by decide +kernel
theorem sub_d44 : decode jdk_42_method_92_code 44 = .ok (.goto 13, 3) := by decide +kernel
theorem sub_d57 : decode jdk_42_method_92_code 57 = .ok (.areturn, 1) := by decide +kernel
theorem sub_pn : plainName "java/lang/String" = true := by first | (simp [plainName, overriddenIn]; done) | decide +kernel
theorem sub_pd0 : parseMethodDescriptor "()I" = some ⟨[], some .int⟩ := by decide +kernel
theorem sub_pd1 : parseMethodDescriptor "(III)V" = some ⟨[.int, .int, .int], none⟩ := by decide +kernel
theorem sub_pd2 : parseMethodDescriptor "()Z" = some ⟨[], some .boolean⟩ := by decide +kernel
theorem sub_pd3 : parseMethodDescriptor "([BII)Ljava/lang/String;" = some ⟨[(.array .byte), .int, .int], some (.object "java/lang/String")⟩ := by decide +kernel
theorem sub_ef (m : MethodId) (x0 : Addr) (x1 : Int32) (x2 : Int32) : entryFrame m #[(.ref x0), (.int x1), (.int x2)] 5 = mkF m 0 #[.val (.ref x0), .val (.int x1), .val (.int x2), .unset, .unset] [] := by first | (simp [entryFrame, mkF, argsToLocals, Value.category]; done) | rfl
set_option maxRecDepth 65536 in
set_option maxHeartbeats 40000000 in
theorem rm_sub (l : Launch) (Z : State) (a0 : Array Value) (hw : ∀ d ∈ tables_1, d.before a0 Z = true) (ws : List Jvm.Cond) (a1 : Addr) (bs : List Int32) (su : Nat) (mu : Nat) (cz : Int32) (fm : Value) (h0 : Heap) (n0 : Nat) (Z0 : n0 ≤ h0.size) (OL : Old Z n0 h0) (B1 : OwnStr Z h0 a1 bs) (hmu : mu ≤ 4) (hsu : su + mu ≤ bs.length) (SC : Sta Z Z.heap "java/lang/String" "COMPACT_STRINGS" "Z" (.int cz)) (hcz : ¬ cz = 0) (SO : Sta Z Z.heap "jdk/internal/util/Preconditions" "SIOOBE_FORMATTER" "Ljava/util/function/BiFunction;" fm) (hfm : fm.isRef = true) :
    MetFree l (⟨"java/lang/String", "substring", "(II)Ljava/lang/String;"⟩ : MethodName) (head1 (Jvm.Cond.code (⟨"java/lang/String", "substring", "(II)Ljava/lang/String;"⟩ : MethodName) jdk_42_method_92_code 5 (some (.object "java/lang/String")) :: ws) ({ frames := 4, cells := 4, slots := 8, locals := 140 } : Room)) (fun a U => a = #[(.ref a1), (.int (Int32.ofNat su)), (.int (Int32.ofNat (su + mu)))] ∧ Z.Warmed39 U.vm ∧ U.heap = h0 ∧ CHv Z own_EL U.vm h0 ∧ ∀ x ∈ ([] : List Addr), Safe Z own_EL U.vm h0 x) (fun _ _ _ _ _ => True) (fun _ U o U' => OwnEndW Z own_EL U (fun v h L => ∃ a, v = some (.ref a) ∧ Fr n0 L ∧ Ext h0 h ∧ OwnStr Z h a ((bs.drop su).take mu)) ({ frames := 4, cells := 4, slots := 8, locals := 140 } : Room).cells ({ frames := 4, cells := 4, slots := 8, locals := 140 } : Room).slots o U') := by
  refine MetFree.of_bodySF (plainFor_of_name sub_pn) hisR ?_
  intro p e s m args below meth c s₁ Bd hml0 hP hK
  obtain ⟨rfl, hZ, hh, hCH, hSL⟩ := hP
  have hx := Bd.exec
  have hby := Bd.bytes
  have hml : c.maxLocals = 5 := hml0
  have hown : s.vm.findClass "java/lang/String" = some m.cls := findClass_of_methodNamed Bd.named
  have hnm := (name_of_methodNamed Bd.named Bd.method).1
  have X0 : Stand p l e ({ frames := 4, cells := 4, slots := 8, locals := 140 } : Room) (s.setVm s.vm) m #[(.ref a1), (.int (Int32.ofNat su)), (.int (Int32.ofNat (su + mu)))] below meth c s₁ [] 0 0 := Stand.of_body Bd
  have e0 : s₁.heap = h0 := by rw [← hh, Bd.state]; rfl
  have N0 := Fr.nil n0
  have KP0 := Keep.refl h0 []
  have hown : (s.setVm s.vm).vm.findClass "java/lang/String" = some m.cls := hown
  have hZ : Z.Warmed39 (s.setVm s.vm).vm := hZ
  have hS0 : s.Since s.vm 0 := (State.WarmedH.refl s).since 0
  have hk0 : 0 ≤ h0.size := Nat.zero_le _
  have CR0 : CHr Z own_EL s.vm h0 s.vm h0 := CHr.refl hCH
  have hEL := own_EW hw
  refine own_go (Q := (OwnEndW Z own_EL s (fun v h L => ∃ a, v = some (.ref a) ∧ Fr n0 L ∧ Ext h0 h ∧ OwnStr Z h a ((bs.drop su).take mu)) ({ frames := 4, cells := 4, slots := 8, locals := 140 } : Room).cells ({ frames := 4, cells := 4, slots := 8, locals := 140 } : Room).slots)) ?_
  refine own_back (fun t k => castTop (sub_ef m a1 (Int32.ofNat su) (Int32.ofNat (su + mu))) k) ?_
  show OwnGo p e below (s₁.setTop (mkF m 0 #[.val (.ref a1), .val (.int (Int32.ofNat su)), .val (.int (Int32.ofNat (su + mu))), .unset, .unset] [])) _
  obtain ⟨t1, k1, E1, C1, F1, V1, m1⟩ := id B1
  refine own_back (fun t k => XS.aloadN X0.here hx rfl (hb hby sub_d0) rfl rfl k) ?_
  show OwnGo p e below (s₁.setTop (mkF m 1 #[.val (.ref a1), .val (.int (Int32.ofNat su)), .val (.int (Int32.ofNat (su + mu))), .unset, .unset] [(.ref a1)])) _
  obtain ⟨cq257, kq257, q257a, q257b, q257c⟩ := isOf hZ e0 E1
  obtain ⟨_, _, ⟨T257, L257, k257, n257⟩, -, X257, ⟨Lc257, hQ257, l257, y257, z257⟩, st257⟩ := X0.virtualBack hx (y := (⟨"java/lang/String", "length", "()I"⟩ : MethodName)) (z := (⟨"java/lang/String", "length", "()I"⟩ : MethodName)) hown (mvT hZ (hw _ (List.mem_of_getElem? (i := 50) rfl))) (mvT hZ (hw _ (List.mem_of_getElem? (i := 35) rfl))) (notFace_of_selects (args := #[]) (mvT hZ (hw _ (List.mem_of_getElem? (i := 37) rfl)))) (mvT hZ (hw _ (List.mem_of_getElem? (i := 37) rfl))) (mvT hZ (hw _ (List.mem_of_getElem? (i := 36) rfl))) (by decide) (own_backN (W := 0) (rm_len l Z a0 hw [] a1 bs cz h0 n0 Z0 OL B1 SC hcz) hZ (hw _ (List.mem_of_getElem? (i := 38) rfl)) (hw _ (List.mem_of_getElem? (i := 11) rfl)) (by decide) (by decide)) q257a q257c (g := (mkF m 1 #[.val (.ref a1), .val (.int (Int32.ofNat su)), .val (.int (Int32.ofNat (su + mu))), .unset, .unset] [(.ref a1)])) rfl (by rw [hml]; rfl) (Steps.refl _) (argsL := []) (rest := []) (lenOf sub_pd0 rfl) rfl (by show 2 * 0 + _ ≤ _; exact Nat.le_of_eq rfl) (hb hby sub_d1) (fun _ _ => ⟨rfl, e0, Nat.le_of_ble_eq_true rfl, Nat.le_of_ble_eq_true rfl⟩)
  dsimp only [Pt.U, Pt.locs, Pt.cells, Pt.slots] at X257 l257 y257 z257 st257 hQ257
  subst l257 y257 z257
  obtain ⟨rfl, N257q, hh257⟩ := hQ257
  refine own_seq st257 ?_
  have N257 := Fr.app N0 N257q
  show OwnGo p e below (T257.setTop (mkF m 4 #[.val (.ref a1), .val (.int (Int32.ofNat su)), .val (.int (Int32.ofNat (su + mu))), .unset, .unset] [(.int (Int32.ofNat bs.length))])) _
  refine own_back (fun t k => XS.istoreN X257.here hx rfl (hb hby sub_d4) rfl (l' := #[.val (.ref a1), .val (.int (Int32.ofNat su)), .val (.int (Int32.ofNat (su + mu))), .val (.int (Int32.ofNat bs.length)), .unset]) rfl k) ?_
  show OwnGo p e below (T257.setTop (mkF m 5 #[.val (.ref a1), .val (.int (Int32.ofNat su)), .val (.int (Int32.ofNat (su + mu))), .val (.int (Int32.ofNat bs.length)), .unset] [])) _
  refine own_back (fun t k => XS.iloadN X257.here hx rfl (hb hby sub_d5) rfl k) ?_
  show OwnGo p e below (T257.setTop (mkF m 6 #[.val (.ref a1), .val (.int (Int32.ofNat su)), .val (.int (Int32.ofNat (su + mu))), .val (.int (Int32.ofNat bs.length)), .unset] [(.int (Int32.ofNat su))])) _
  refine own_back (fun t k => XS.iloadN X257.here hx rfl (hb hby sub_d6) rfl k) ?_
  show OwnGo p e below (T257.setTop (mkF m 7 #[.val (.ref a1), .val (.int (Int32.ofNat su)), .val (.int (Int32.ofNat (su + mu))), .val (.int (Int32.ofNat bs.length)), .unset] [(.int (Int32.ofNat (su + mu))), (.int (Int32.ofNat su))])) _
  refine own_back (fun t k => XS.iloadN X257.here hx rfl (hb hby sub_d7) rfl k) ?_
  show OwnGo p e below (T257.setTop (mkF m 8 #[.val (.ref a1), .val (.int (Int32.ofNat su)), .val (.int (Int32.ofNat (su + mu))), .val (.int (Int32.ofNat bs.length)), .unset] [(.int (Int32.ofNat bs.length)), (.int (Int32.ofNat (su + mu))), (.int (Int32.ofNat su))])) _
  obtain ⟨_, _, ⟨T258, L258, k258, n258⟩, -, X258, ⟨Lc258, hQ258, l258, y258, z258⟩, st258⟩ := Jvm.LawKit.callS X257 hx (y := (⟨"java/lang/String", "checkBoundsBeginEnd", "(III)V"⟩ : MethodName)) hown (mvT hZ (hw _ (List.mem_of_getElem? (i := 51) rfl))) (mvT hZ (hw _ (List.mem_of_getElem? (i := 52) rfl))) (mvT hZ (hw _ (List.mem_of_getElem? (i := 11) rfl))) (mvT hZ (hw _ (List.mem_of_getElem? (i := 53) rfl))) (by decide) (own_backN (W := 0) (rm_cbe l Z a0 hw [] (Int32.ofNat su) (Int32.ofNat (su + mu)) (Int32.ofNat bs.length) cz fm h0 n0 Z0 OL (own_nn (by omega)) (own_nlti (by omega) (by omega)) (own_nlti (by omega) (by omega)) SC hcz SO hfm) hZ (hw _ (List.mem_of_getElem? (i := 53) rfl)) (hw _ (List.mem_of_getElem? (i := 11) rfl)) (by decide) (by decide)) (g := (mkF m 8 #[.val (.ref a1), .val (.int (Int32.ofNat su)), .val (.int (Int32.ofNat (su + mu))), .val (.int (Int32.ofNat bs.length)), .unset] [(.int (Int32.ofNat bs.length)), (.int (Int32.ofNat (su + mu))), (.int (Int32.ofNat su))])) rfl (by rw [hml]; rfl) (argsL := [(.int (Int32.ofNat su)), (.int (Int32.ofNat (su + mu))), (.int (Int32.ofNat bs.length))]) (rest := []) (lenOf sub_pd1 rfl) rfl (by show 2 * 0 + _ ≤ _; exact Nat.le_of_eq rfl) (hb hby sub_d8) (fun _ _ => ⟨rfl, hh257, Nat.le_of_ble_eq_true rfl, Nat.le_of_ble_eq_true rfl⟩)
  dsimp only [Pt.U, Pt.locs, Pt.cells, Pt.slots] at X258 l258 y258 z258 st258 hQ258
  subst l258 y258 z258
  obtain ⟨rfl, N258q, hh258⟩ := hQ258
  refine own_back st258 ?_
  have N258 := Fr.app N257 N258q
  show OwnGo p e below (T258.setTop (mkF m 11 #[.val (.ref a1), .val (.int (Int32.ofNat su)), .val (.int (Int32.ofNat (su + mu))), .val (.int (Int32.ofNat bs.length)), .unset] [])) _
  refine own_back (fun t k => XS.iloadN X258.here hx rfl (hb hby sub_d11) rfl k) ?_
  show OwnGo p e below (T258.setTop (mkF m 12 #[.val (.ref a1), .val (.int (Int32.ofNat su)), .val (.int (Int32.ofNat (su + mu))), .val (.int (Int32.ofNat bs.length)), .unset] [(.int (Int32.ofNat su))])) _
  by_cases hc12_259 : (Int32.ofNat su) = (0 : Int32)
  · refine own_back (fun t k => XS.ifNo X258.here hx rfl (hb hby sub_d12) rfl (Jvm.Free.XT.i0_ne_f hc12_259) k) ?_
    show OwnGo p e below (T258.setTop (mkF m 15 #[.val (.ref a1), .val (.int (Int32.ofNat su)), .val (.int (Int32.ofNat (su + mu))), .val (.int (Int32.ofNat bs.length)), .unset] [])) _
    refine own_back (fun t k => XS.iloadN X258.here hx rfl (hb hby sub_d15) rfl k) ?_
    show OwnGo p e below (T258.setTop (mkF m 16 #[.val (.ref a1), .val (.int (Int32.ofNat su)), .val (.int (Int32.ofNat (su + mu))), .val (.int (Int32.ofNat bs.length)), .unset] [(.int (Int32.ofNat (su + mu)))])) _
    refine own_back (fun t k => XS.iloadN X258.here hx rfl (hb hby sub_d16) rfl k) ?_
    show OwnGo p e below (T258.setTop (mkF m 17 #[.val (.ref a1), .val (.int (Int32.ofNat su)), .val (.int (Int32.ofNat (su + mu))), .val (.int (Int32.ofNat bs.length)), .unset] [(.int (Int32.ofNat bs.length)), (.int (Int32.ofNat (su + mu)))])) _
    by_cases hc17_260 : (Int32.ofNat (su + mu)) = (Int32.ofNat bs.length)
    · refine own_back (fun t k => XS.icmpNo X258.here hx rfl (hb hby sub_d17) rfl (Jvm.Free.XT.ii_ne_f hc17_260) k) ?_
      show OwnGo p e below (T258.setTop (mkF m 20 #[.val (.ref a1), .val (.int (Int32.ofNat su)), .val (.int (Int32.ofNat (su + mu))), .val (.int (Int32.ofNat bs.length)), .unset] [])) _
      refine own_back (fun t k => XS.aloadN X258.here hx rfl (hb hby sub_d20) rfl rfl k) ?_
      show OwnGo p e below (T258.setTop (mkF m 21 #[.val (.ref a1), .val (.int (Int32.ofNat su)), .val (.int (Int32.ofNat (su + mu))), .val (.int (Int32.ofNat bs.length)), .unset] [(.ref a1)])) _
      refine own_retAW X258 hx Bd.notSynchronized Bd.returns rfl rfl hS0 hk0 hZ hEL (hh ▸ CR0) (hb hby sub_d21) hh258 (Nat.le_of_ble_eq_true rfl) (Nat.le_of_ble_eq_true rfl) ?_
      exact ⟨_, rfl, N258, own_ext KP0, own_all bs su mu (own_eqi (n := 0) (by omega) (by omega) hc12_259) (own_eqi (by omega) (by omega) hc17_260) B1⟩
    · refine own_back (fun t k => XS.icmpYes X258.here hx rfl (pc0 := 17) (pc' := 22) rfl (hb hby sub_d17) rfl (Jvm.Free.XT.ii_ne_t hc17_260) (by decide) (by decide) k) ?_
      show OwnGo p e below (T258.setTop (mkF m 22 #[.val (.ref a1), .val (.int (Int32.ofNat su)), .val (.int (Int32.ofNat (su + mu))), .val (.int (Int32.ofNat bs.length)), .unset] [])) _
      refine own_back (fun t k => XS.iloadN X258.here hx rfl (hb hby sub_d22) rfl k) ?_
      show OwnGo p e below (T258.setTop (mkF m 23 #[.val (.ref a1), .val (.int (Int32.ofNat su)), .val (.int (Int32.ofNat (su + mu))), .val (.int (Int32.ofNat bs.length)), .unset] [(.int (Int32.ofNat (su + mu)))])) _
      refine own_back (fun t k => XS.iloadN X258.here hx rfl (hb hby sub_d23) rfl k) ?_
      show OwnGo p e below (T258.setTop (mkF m 24 #[.val (.ref a1), .val (.int (Int32.ofNat su)), .val (.int (Int32.ofNat (su + mu))), .val (.int (Int32.ofNat bs.length)), .unset] [(.int (Int32.ofNat su)), (.int (Int32.ofNat (su + mu)))])) _
      refine own_back (fun t k => XS.isub X258.here hx rfl (hb hby sub_d24) rfl k) ?_
      show OwnGo p e below (T258.setTop (mkF m 25 #[.val (.ref a1), .val (.int (Int32.ofNat su)), .val (.int (Int32.ofNat (su + mu))), .val (.int (Int32.ofNat bs.length)), .unset] [(.int ((Int32.ofNat (su + mu)) - (Int32.ofNat su)))])) _
      rw [show ((Int32.ofNat (su + mu)) - (Int32.ofNat su)) = (Int32.ofNat mu) from (own_subi (by omega)).trans (by rw [Nat.add_sub_cancel_left])]
      show OwnGo p e below (T258.setTop (mkF m 25 #[.val (.ref a1), .val (.int (Int32.ofNat su)), .val (.int (Int32.ofNat (su + mu))), .val (.int (Int32.ofNat bs.length)), .unset] [(.int (Int32.ofNat mu))])) _
      refine own_back (fun t k => XS.istore X258.here hx rfl (hb hby sub_d25) rfl (l' := #[.val (.ref a1), .val (.int (Int32.ofNat su)), .val (.int (Int32.ofNat (su + mu))), .val (.int (Int32.ofNat bs.length)), .val (.int (Int32.ofNat mu))]) rfl k) ?_
      show OwnGo p e below (T258.setTop (mkF m 27 #[.val (.ref a1), .val (.int (Int32.ofNat su)), .val (.int (Int32.ofNat (su + mu))), .val (.int (Int32.ofNat bs.length)), .val (.int (Int32.ofNat mu))] [])) _
      refine own_back (fun t k => XS.aloadN X258.here hx rfl (hb hby sub_d27) rfl rfl k) ?_
      show OwnGo p e below (T258.setTop (mkF m 28 #[.val (.ref a1), .val (.int (Int32.ofNat su)), .val (.int (Int32.ofNat (su + mu))), .val (.int (Int32.ofNat bs.length)), .val (.int (Int32.ofNat mu))] [(.ref a1)])) _
      obtain ⟨cq261, kq261, q261a, q261b, q261c⟩ := isOf hZ hh258 E1
      obtain ⟨_, _, ⟨T261, L261, k261, n261⟩, -, X261, ⟨Lc261, hQ261, l261, y261, z261⟩, st261⟩ := X258.virtualBack hx (y := (⟨"java/lang/String", "isLatin1", "()Z"⟩ : MethodName)) (z := (⟨"java/lang/String", "isLatin1", "()Z"⟩ : MethodName)) hown (mvT hZ (hw _ (List.mem_of_getElem? (i := 78) rfl))) (mvT hZ (hw _ (List.mem_of_getElem? (i := 79) rfl))) (notFace_of_selects (args := #[]) (mvT hZ (hw _ (List.mem_of_getElem? (i := 81) rfl)))) (mvT hZ (hw _ (List.mem_of_getElem? (i := 81) rfl))) (mvT hZ (hw _ (List.mem_of_getElem? (i := 80) rfl))) (by decide) (own_backN (W := 0) (rm_isL l Z a0 hw [] a1 cz h0 n0 Z0 OL C1 SC hcz) hZ (hw _ (List.mem_of_getElem? (i := 82) rfl)) (hw _ (List.mem_of_getElem? (i := 11) rfl)) (by decide) (by decide)) q261a q261c (g := (mkF m 28 #[.val (.ref a1), .val (.int (Int32.ofNat su)), .val (.int (Int32.ofNat (su + mu))), .val (.int (Int32.ofNat bs.length)), .val (.int (Int32.ofNat mu))] [(.ref a1)])) rfl (by rw [hml]; rfl) (Steps.refl _) (argsL := []) (rest := []) (lenOf sub_pd2 rfl) rfl (by show 2 * 0 + _ ≤ _; exact Nat.le_of_eq rfl) (hb hby sub_d28) (fun _ _ => ⟨rfl, hh258, Nat.le_of_ble_eq_true rfl, Nat.le_of_ble_eq_true rfl⟩)
      dsimp only [Pt.U, Pt.locs, Pt.cells, Pt.slots] at X261 l261 y261 z261 st261 hQ261
      subst l261 y261 z261
      obtain ⟨rfl, N261q, hh261⟩ := hQ261
      refine own_seq st261 ?_
      have N261 := Fr.app N258 N261q
      show OwnGo p e below (T261.setTop (mkF m 31 #[.val (.ref a1), .val (.int (Int32.ofNat su)), .val (.int (Int32.ofNat (su + mu))), .val (.int (Int32.ofNat bs.length)), .val (.int (Int32.ofNat mu))] [(.int (1 : Int32))])) _
      refine own_back (fun t k => XS.ifNo X261.here hx rfl (hb hby sub_d31) rfl (Jvm.Free.XT.i0_eq_f (by decide)) k) ?_
      show OwnGo p e below (T261.setTop (mkF m 34 #[.val (.ref a1), .val (.int (Int32.ofNat su)), .val (.int (Int32.ofNat (su + mu))), .val (.int (Int32.ofNat bs.length)), .val (.int (Int32.ofNat mu))] [])) _
      refine own_back (fun t k => XS.aloadN X261.here hx rfl (hb hby sub_d34) rfl rfl k) ?_
      show OwnGo p e below (T261.setTop (mkF m 35 #[.val (.ref a1), .val (.int (Int32.ofNat su)), .val (.int (Int32.ofNat (su + mu))), .val (.int (Int32.ofNat bs.length)), .val (.int (Int32.ofNat mu))] [(.ref a1)])) _
      obtain ⟨T262, X262, e262, st262⟩ := getF X261 hx hZ hown (host := "") (Or.inl (hw _ (List.mem_of_getElem? (i := 28) rfl))) Via.refl hh261 F1 (g := (mkF m 35 #[.val (.ref a1), .val (.int (Int32.ofNat su)), .val (.int (Int32.ofNat (su + mu))), .val (.int (Int32.ofNat bs.length)), .val (.int (Int32.ofNat mu))] [(.ref a1)])) rfl rfl (hb hby sub_d35)
      refine own_back st262 ?_
      show OwnGo p e below (T262.setTop (mkF m 38 #[.val (.ref a1), .val (.int (Int32.ofNat su)), .val (.int (Int32.ofNat (su + mu))), .val (.int (Int32.ofNat bs.length)), .val (.int (Int32.ofNat mu))] [(.ref t1)])) _
      refine own_back (fun t k => XS.iloadN X262.here hx rfl (hb hby sub_d38) rfl k) ?_
      show OwnGo p e below (T262.setTop (mkF m 39 #[.val (.ref a1), .val (.int (Int32.ofNat su)), .val (.int (Int32.ofNat (su + mu))), .val (.int (Int32.ofNat bs.length)), .val (.int (Int32.ofNat mu))] [(.int (Int32.ofNat su)), (.ref t1)])) _
      refine own_back (fun t k => XS.iload X262.here hx rfl (hb hby sub_d39) rfl k) ?_
      show OwnGo p e below (T262.setTop (mkF m 41 #[.val (.ref a1), .val (.int (Int32.ofNat su)), .val (.int (Int32.ofNat (su + mu))), .val (.int (Int32.ofNat bs.length)), .val (.int (Int32.ofNat mu))] [(.int (Int32.ofNat mu)), (.int (Int32.ofNat su)), (.ref t1)])) _
      by_cases h0m : mu = 0
      · obtain ⟨_, _, ⟨T263, L263, k263, n263⟩, -, X263, hSn263, hgr263, ⟨Lc263, hQ263, l263, y263, z263, CRn263⟩, st263⟩ := callSS X262 hx (y := (⟨"java/lang/StringLatin1", "newString", "([BII)Ljava/lang/String;"⟩ : MethodName)) hown (mvT hZ (hw _ (List.mem_of_getElem? (i := 96) rfl))) (mvT hZ (hw _ (List.mem_of_getElem? (i := 97) rfl))) (mvT hZ (hw _ (List.mem_of_getElem? (i := 85) rfl))) (mvT hZ (hw _ (List.mem_of_getElem? (i := 98) rfl))) (by decide) (own_backH (W := 0) (rm_ns0 l Z a0 hw [] t1 k1 bs su mu h0 n0 Z0 OL h0m) hZ (hw _ (List.mem_of_getElem? (i := 98) rfl)) (hw _ (List.mem_of_getElem? (i := 85) rfl)) (by decide) (by decide) hEL CR0.1 sf0 all0) (g := (mkF m 41 #[.val (.ref a1), .val (.int (Int32.ofNat su)), .val (.int (Int32.ofNat (su + mu))), .val (.int (Int32.ofNat bs.length)), .val (.int (Int32.ofNat mu))] [(.int (Int32.ofNat mu)), (.int (Int32.ofNat su)), (.ref t1)])) rfl (by rw [hml]; rfl) (argsL := [(.ref t1), (.int (Int32.ofNat su)), (.int (Int32.ofNat mu))]) (rest := []) (lenOf sub_pd3 rfl) rfl (by show 2 * 0 + _ ≤ _; exact Nat.le_of_eq rfl) (hb hby sub_d41) (fun _ _ => ⟨rfl, e262, Nat.le_of_ble_eq_true rfl, Nat.le_of_ble_eq_true rfl⟩)
        dsimp only [Pt.U, Pt.locs, Pt.cells, Pt.slots] at X263 l263 y263 z263 st263 hQ263 hSn263 hgr263 CRn263
        subst l263 y263 z263
        obtain ⟨Xr263, hSr263, hZr263, hownr263⟩ := rebS hS0 (own_hle e262 hk0) X263 hSn263 hgr263 hZ hown
        obtain ⟨aq263, rfl, N263q, E263, B263⟩ := hQ263
        refine own_seq st263 ?_
        have N263 := Fr.app N261 N263q
        have O264 := OL.ext E263
        have KP265 := KP0.ext E263
        have Zs266 := Nat.le_trans Z0 E263.1
        have CR267 := CR0.trans CRn263
        have f268 := E1.ext E263
        have f269 := C1.ext E263
        have f270 := F1.ext E263
        have f271 := V1.ext E263
        show OwnGo p e below (T263.setTop (mkF m 44 #[.val (.ref a1), .val (.int (Int32.ofNat su)), .val (.int (Int32.ofNat (su + mu))), .val (.int (Int32.ofNat bs.length)), .val (.int (Int32.ofNat mu))] [(.ref aq263)])) _
        refine own_back (fun t k => XS.goto Xr263.here hx rfl (pc0 := 44) (pc' := 57) rfl (hb hby sub_d44) (by decide) (by decide) k) ?_
        show OwnGo p e below (T263.setTop (mkF m 57 #[.val (.ref a1), .val (.int (Int32.ofNat su)), .val (.int (Int32.ofNat (su + mu))), .val (.int (Int32.ofNat bs.length)), .val (.int (Int32.ofNat mu))] [(.ref aq263)])) _
        refine own_retAW Xr263 hx Bd.notSynchronized Bd.returns rfl rfl hSr263 (Nat.le_refl _) hZr263 hEL (hh ▸ CR267) (hb hby sub_d57) rfl (Nat.le_of_ble_eq_true rfl) (Nat.le_of_ble_eq_true rfl) ?_
        exact ⟨_, rfl, N263, own_ext KP265, B263⟩
      · obtain ⟨_, _, ⟨T272, L272, k272, n272⟩, -, X272, ⟨Lc272, hQ272, l272, y272, z272⟩, st272⟩ := Jvm.LawKit.callS X262 hx (y := (⟨"java/lang/StringLatin1", "newString", "([BII)Ljava/lang/String;"⟩ : MethodName)) hown (mvT hZ (hw _ (List.mem_of_getElem? (i := 96) rfl))) (mvT hZ (hw _ (List.mem_of_getElem? (i := 97) rfl))) (mvT hZ (hw _ (List.mem_of_getElem? (i := 85) rfl))) (mvT hZ (hw _ (List.mem_of_getElem? (i := 98) rfl))) (by decide) (own_backN (W := 0) (rm_ns1 l Z a0 hw [] t1 k1 bs su mu h0 n0 Z0 OL V1 m1 hmu hsu (fun q => hc17_260 (by rw [q.2])) h0m) hZ (hw _ (List.mem_of_getElem? (i := 98) rfl)) (hw _ (List.mem_of_getElem? (i := 85) rfl)) (by decide) (by decide)) (g := (mkF m 41 #[.val (.ref a1), .val (.int (Int32.ofNat su)), .val (.int (Int32.ofNat (su + mu))), .val (.int (Int32.ofNat bs.length)), .val (.int (Int32.ofNat mu))] [(.int (Int32.ofNat mu)), (.int (Int32.ofNat su)), (.ref t1)])) rfl (by rw [hml]; rfl) (argsL := [(.ref t1), (.int (Int32.ofNat su)), (.int (Int32.ofNat mu))]) (rest := []) (lenOf sub_pd3 rfl) rfl (by show 2 * 0 + _ ≤ _; exact Nat.le_of_eq rfl) (hb hby sub_d41) (fun _ _ => ⟨rfl, e262, Nat.le_of_ble_eq_true rfl, Nat.le_of_ble_eq_true rfl⟩)
        dsimp only [Pt.U, Pt.locs, Pt.cells, Pt.slots] at X272 l272 y272 z272 st272 hQ272
        subst l272 y272 z272
        obtain ⟨aq272, rfl, N272q, E272, B272⟩ := hQ272
        refine own_back st272 ?_
        have N272 := Fr.app N261 N272q
        have O273 := OL.ext E272
        have KP274 := KP0.ext E272
        have Zs275 := Nat.le_trans Z0 E272.1
        have CR276 := CR0.trans (CHr.ext E272 CR0.1)
        have hk277 := Nat.le_trans hk0 E272.1
        have f278 := E1.ext E272
        have f279 := C1.ext E272
        have f280 := F1.ext E272
        have f281 := V1.ext E272
        show OwnGo p e below (T272.setTop (mkF m 44 #[.val (.ref a1), .val (.int (Int32.ofNat su)), .val (.int (Int32.ofNat (su + mu))), .val (.int (Int32.ofNat bs.length)), .val (.int (Int32.ofNat mu))] [(.ref aq272)])) _
        refine own_back (fun t k => XS.goto X272.here hx rfl (pc0 := 44) (pc' := 57) rfl (hb hby sub_d44) (by decide) (by decide) k) ?_
        show OwnGo p e below (T272.setTop (mkF m 57 #[.val (.ref a1), .val (.int (Int32.ofNat su)), .val (.int (Int32.ofNat (su + mu))), .val (.int (Int32.ofNat bs.length)), .val (.int (Int32.ofNat mu))] [(.ref aq272)])) _
        refine own_retAW X272 hx Bd.notSynchronized Bd.returns rfl rfl hS0 hk277 hZ hEL (hh ▸ CR276) (hb hby sub_d57) rfl (Nat.le_of_ble_eq_true rfl) (Nat.le_of_ble_eq_true rfl) ?_
        exact ⟨_, rfl, N272, own_ext KP274, B272⟩
  · refine own_back (fun t k => XS.ifYes X258.here hx rfl (pc0 := 12) (pc' := 22) rfl (hb hby sub_d12) rfl (Jvm.Free.XT.i0_ne_t hc12_259) (by decide) (by decide) k) ?_
    show OwnGo p e below (T258.setTop (mkF m 22 #[.val (.ref a1), .val (.int (Int32.ofNat su)), .val (.int (Int32.ofNat (su + mu))), .val (.int (Int32.ofNat bs.length)), .unset] [])) _
    refine own_back (fun t k => XS.iloadN X258.here hx rfl (hb hby sub_d22) rfl k) ?_
    show OwnGo p e below (T258.setTop (mkF m 23 #[.val (.ref a1), .val (.int (Int32.ofNat su)), .val (.int (Int32.ofNat (su + mu))), .val (.int (Int32.ofNat bs.length)), .unset] [(.int (Int32.ofNat (su + mu)))])) _
    refine own_back (fun t k => XS.iloadN X258.here hx rfl (hb hby sub_d23) rfl k) ?_
    show OwnGo p e below (T258.setTop (mkF m 24 #[.val (.ref a1), .val (.int (Int32.ofNat su)), .val (.int (Int32.ofNat (su + mu))), .val (.int (Int32.ofNat bs.length)), .unset] [(.int (Int32.ofNat su)), (.int (Int32.ofNat (su + mu)))])) _
    refine own_back (fun t k => XS.isub X258.here hx rfl (hb hby sub_d24) rfl k) ?_
    show OwnGo p e below (T258.setTop (mkF m 25 #[.val (.ref a1), .val (.int (Int32.ofNat su)), .val (.int (Int32.ofNat (su + mu))), .val (.int (Int32.ofNat bs.length)), .unset] [(.int ((Int32.ofNat (su + mu)) - (Int32.ofNat su)))])) _
    rw [show ((Int32.ofNat (su + mu)) - (Int32.ofNat su)) = (Int32.ofNat mu) from (own_subi (by omega)).trans (by rw [Nat.add_sub_cancel_left])]
    show OwnGo p e below (T258.setTop (mkF m 25 #[.val (.ref a1), .val (.int (Int32.ofNat su)), .val (.int (Int32.ofNat (su + mu))), .val (.int (Int32.ofNat bs.length)), .unset] [(.int (Int32.ofNat mu))])) _
    refine own_back (fun t k => XS.istore X258.here hx rfl (hb hby sub_d25) rfl (l' := #[.val (.ref a1), .val (.int (Int32.ofNat su)), .val (.int (Int32.ofNat (su + mu))), .val (.int (Int32.ofNat bs.length)), .val (.int (Int32.ofNat mu))]) rfl k) ?_
    show OwnGo p e below (T258.setTop (mkF m 27 #[.val (.ref a1), .val (.int (Int32.ofNat su)), .val (.int (Int32.ofNat (su + mu))), .val (.int (Int32.ofNat bs.length)), .val (.int (Int32.ofNat mu))] [])) _
    refine own_back (fun t k => XS.aloadN X258.here hx rfl (hb hby sub_d27) rfl rfl k) ?_
    show OwnGo p e below (T258.setTop (mkF m 28 #[.val (.ref a1), .val (.int (Int32.ofNat su)), .val (.int (Int32.ofNat (su + mu))), .val (.int (Int32.ofNat bs.length)), .val (.int (Int32.ofNat mu))] [(.ref a1)])) _
    obtain ⟨cq282, kq282, q282a, q282b, q282c⟩ := isOf hZ hh258 E1
    obtain ⟨_, _, ⟨T282, L282, k282, n282⟩, -, X282, ⟨Lc282, hQ282, l282, y282, z282⟩, st282⟩ := X258.virtualBack hx (y := (⟨"java/lang/String", "isLatin1", "()Z"⟩ : MethodName)) (z := (⟨"java/lang/String", "isLatin1", "()Z"⟩ : MethodName)) hown (mvT hZ (hw _ (List.mem_of_getElem? (i := 78) rfl))) (mvT hZ (hw _ (List.mem_of_getElem? (i := 79) rfl))) (notFace_of_selects (args := #[]) (mvT hZ (hw _ (List.mem_of_getElem? (i := 81) rfl)))) (mvT hZ (hw _ (List.mem_of_getElem? (i := 81) rfl))) (mvT hZ (hw _ (List.mem_of_getElem? (i := 80) rfl))) (by decide) (own_backN (W := 0) (rm_isL l Z a0 hw [] a1 cz h0 n0 Z0 OL C1 SC hcz) hZ (hw _ (List.mem_of_getElem? (i := 82) rfl)) (hw _ (List.mem_of_getElem? (i := 11) rfl)) (by decide) (by decide)) q282a q282c (g := (mkF m 28 #[.val (.ref a1), .val (.int (Int32.ofNat su)), .val (.int (Int32.ofNat (su + mu))), .val (.int (Int32.ofNat bs.length)), .val (.int (Int32.ofNat mu))] [(.ref a1)])) rfl (by rw [hml]; rfl) (Steps.refl _) (argsL := []) (rest := []) (lenOf sub_pd2 rfl) rfl (by show 2 * 0 + _ ≤ _; exact Nat.le_of_eq rfl) (hb hby sub_d28) (fun _ _ => ⟨rfl, hh258, Nat.le_of_ble_eq_true rfl, Nat.le_of_ble_eq_true rfl⟩)
    dsimp only [Pt.U, Pt.locs, Pt.cells, Pt.slots] at X282 l282 y282 z282 st282 hQ282
    subst l282 y282 z282
    obtain ⟨rfl, N282q, hh282⟩ := hQ282
    refine own_seq st282 ?_
    have N282 := Fr.app N258 N282q
    show OwnGo p e below (T282.setTop (mkF m 31 #[.val (.ref a1), .val (.int (Int32.ofNat su)), .val (.int (Int32.ofNat (su + mu))), .val (.int (Int32.ofNat bs.length)), .val (.int (Int32.ofNat mu))] [(.int (1 : Int32))])) _
    refine own_back (fun t k => XS.ifNo X282.here hx rfl (hb hby sub_d31) rfl (Jvm.Free.XT.i0_eq_f (by decide)) k) ?_
    show OwnGo p e below (T282.setTop (mkF m 34 #[.val (.ref a1), .val (.int (Int32.ofNat su)), .val (.int (Int32.ofNat (su + mu))), .val (.int (Int32.ofNat bs.length)), .val (.int (Int32.ofNat mu))] [])) _
    refine own_back (fun t k => XS.aloadN X282.here hx rfl (hb hby sub_d34) rfl rfl k) ?_
    show OwnGo p e below (T282.setTop (mkF m 35 #[.val (.ref a1), .val (.int (Int32.ofNat su)), .val (.int (Int32.ofNat (su + mu))), .val (.int (Int32.ofNat bs.length)), .val (.int (Int32.ofNat mu))] [(.ref a1)])) _
    obtain ⟨T283, X283, e283, st283⟩ := getF X282 hx hZ hown (host := "") (Or.inl (hw _ (List.mem_of_getElem? (i := 28) rfl))) Via.refl hh282 F1 (g := (mkF m 35 #[.val (.ref a1), .val (.int (Int32.ofNat su)), .val (.int (Int32.ofNat (su + mu))), .val (.int (Int32.ofNat bs.length)), .val (.int (Int32.ofNat mu))] [(.ref a1)])) rfl rfl (hb hby sub_d35)
    refine own_back st283 ?_
    show OwnGo p e below (T283.setTop (mkF m 38 #[.val (.ref a1), .val (.int (Int32.ofNat su)), .val (.int (Int32.ofNat (su + mu))), .val (.int (Int32.ofNat bs.length)), .val (.int (Int32.ofNat mu))] [(.ref t1)])) _
    refine own_back (fun t k => XS.iloadN X283.here hx rfl (hb hby sub_d38) rfl k) ?_
    show OwnGo p e below (T283.setTop (mkF m 39 #[.val (.ref a1), .val (.int (Int32.ofNat su)), .val (.int (Int32.ofNat (su + mu))), .val (.int (Int32.ofNat bs.length)), .val (.int (Int32.ofNat mu))] [(.int (Int32.ofNat su)), (.ref t1)])) _
    refine own_back (fun t k => XS.iload X283.here hx rfl (hb hby sub_d39) rfl k) ?_
    show OwnGo p e below (T283.setTop (mkF m 41 #[.val (.ref a1), .val (.int (Int32.ofNat su)), .val (.int (Int32.ofNat (su + mu))), .val (.int (Int32.ofNat bs.length)), .val (.int (Int32.ofNat mu))] [(.int (Int32.ofNat mu)), (.int (Int32.ofNat su)), (.ref t1)])) _
    by_cases h0m : mu = 0
    · obtain ⟨_, _, ⟨T284, L284, k284, n284⟩, -, X284, hSn284, hgr284, ⟨Lc284, hQ284, l284, y284, z284, CRn284⟩, st284⟩ := callSS X283 hx (y := (⟨"java/lang/StringLatin1", "newString", "([BII)Ljava/lang/String;"⟩ : MethodName)) hown (mvT hZ (hw _ (List.mem_of_getElem? (i := 96) rfl))) (mvT hZ (hw _ (List.mem_of_getElem? (i := 97) rfl))) (mvT hZ (hw _ (List.mem_of_getElem? (i := 85) rfl))) (mvT hZ (hw _ (List.mem_of_getElem? (i := 98) rfl))) (by decide) (own_backH (W := 0) (rm_ns0 l Z a0 hw [] t1 k1 bs su mu h0 n0 Z0 OL h0m) hZ (hw _ (List.mem_of_getElem? (i := 98) rfl)) (hw _ (List.mem_of_getElem? (i := 85) rfl)) (by decide) (by decide) hEL CR0.1 sf0 all0) (g := (mkF m 41 #[.val (.ref a1), .val (.int (Int32.ofNat su)), .val (.int (Int32.ofNat (su + mu))), .val (.int (Int32.ofNat bs.length)), .val (.int (Int32.ofNat mu))] [(.int (Int32.ofNat mu)), (.int (Int32.ofNat su)), (.ref t1)])) rfl (by rw [hml]; rfl) (argsL := [(.ref t1), (.int (Int32.ofNat su)), (.int (Int32.ofNat mu))]) (rest := []) (lenOf sub_pd3 rfl) rfl (by show 2 * 0 + _ ≤ _; exact Nat.le_of_eq rfl) (hb hby sub_d41) (fun _ _ => ⟨rfl, e283, Nat.le_of_ble_eq_true rfl, Nat.le_of_ble_eq_true rfl⟩)
      dsimp only [Pt.U, Pt.locs, Pt.cells, Pt.slots] at X284 l284 y284 z284 st284 hQ284 hSn284 hgr284 CRn284
      subst l284 y284 z284
      obtain ⟨Xr284, hSr284, hZr284, hownr284⟩ := rebS hS0 (own_hle e283 hk0) X284 hSn284 hgr284 hZ hown
      obtain ⟨aq284, rfl, N284q, E284, B284⟩ := hQ284
      refine own_seq st284 ?_
      have N284 := Fr.app N282 N284q
      have O285 := OL.ext E284
      have KP286 := KP0.ext E284
      have Zs287 := Nat.le_trans Z0 E284.1
      have CR288 := CR0.trans CRn284
      have f289 := E1.ext E284
      have f290 := C1.ext E284
      have f291 := F1.ext E284
      have f292 := V1.ext E284
      show OwnGo p e below (T284.setTop (mkF m 44 #[.val (.ref a1), .val (.int (Int32.ofNat su)), .val (.int (Int32.ofNat (su + mu))), .val (.int (Int32.ofNat bs.length)), .val (.int (Int32.ofNat mu))] [(.ref aq284)])) _
      refine own_back (fun t k => XS.goto Xr284.here hx rfl (pc0 := 44) (pc' := 57) rfl (hb hby sub_d44) (by decide) (by decide) k) ?_
      show OwnGo p e below (T284.setTop (mkF m 57 #[.val (.ref a1), .val (.int (Int32.ofNat su)), .val (.int (Int32.ofNat (su + mu))), .val (.int (Int32.ofNat bs.length)), .val (.int (Int32.ofNat mu))] [(.ref aq284)])) _
      refine own_retAW Xr284 hx Bd.notSynchronized Bd.returns rfl rfl hSr284 (Nat.le_refl _) hZr284 hEL (hh ▸ CR288) (hb hby sub_d57) rfl (Nat.le_of_ble_eq_true rfl) (Nat.le_of_ble_eq_true rfl) ?_
      exact ⟨_, rfl, N284, own_ext KP286, B284⟩
    · obtain ⟨_, _, ⟨T293, L293, k293, n293⟩, -, X293, ⟨Lc293, hQ293, l293, y293, z293⟩, st293⟩ := Jvm.LawKit.callS X283 hx (y := (⟨"java/lang/StringLatin1", "newString", "([BII)Ljava/lang/String;"⟩ : MethodName)) hown (mvT hZ (hw _ (List.mem_of_getElem? (i := 96) rfl))) (mvT hZ (hw _ (List.mem_of_getElem? (i := 97) rfl))) (mvT hZ (hw _ (List.mem_of_getElem? (i := 85) rfl))) (mvT hZ (hw _ (List.mem_of_getElem? (i := 98) rfl))) (by decide) (own_backN (W := 0) (rm_ns1 l Z a0 hw [] t1 k1 bs su mu h0 n0 Z0 OL V1 m1 hmu hsu (fun q => hc12_259 (by rw [q.1]; rfl)) h0m) hZ (hw _ (List.mem_of_getElem? (i := 98) rfl)) (hw _ (List.mem_of_getElem? (i := 85) rfl)) (by decide) (by decide)) (g := (mkF m 41 #[.val (.ref a1), .val (.int (Int32.ofNat su)), .val (.int (Int32.ofNat (su + mu))), .val (.int (Int32.ofNat bs.length)), .val (.int (Int32.ofNat mu))] [(.int (Int32.ofNat mu)), (.int (Int32.ofNat su)), (.ref t1)])) rfl (by rw [hml]; rfl) (argsL := [(.ref t1), (.int (Int32.ofNat su)), (.int (Int32.ofNat mu))]) (rest := []) (lenOf sub_pd3 rfl) rfl (by show 2 * 0 + _ ≤ _; exact Nat.le_of_eq rfl) (hb hby sub_d41) (fun _ _ => ⟨rfl, e283, Nat.le_of_ble_eq_true rfl, Nat.le_of_ble_eq_true rfl⟩)
      dsimp only [Pt.U, Pt.locs, Pt.cells, Pt.slots] at X293 l293 y293 z293 st293 hQ293
      subst l293 y293 z293
      obtain ⟨aq293, rfl, N293q, E293, B293⟩ := hQ293
      refine own_back st293 ?_
      have N293 := Fr.app N282 N293q
      have O294 := OL.ext E293
      have KP295 := KP0.ext E293
      have Zs296 := Nat.le_trans Z0 E293.1
      have CR297 := CR0.trans (CHr.ext E293 CR0.1)
      have hk298 := Nat.le_trans hk0 E293.1
      have f299 := E1.ext E293
      have f300 := C1.ext E293
      have f301 := F1.ext E293
      have f302 := V1.ext E293
      show OwnGo p e below (T293.setTop (mkF m 44 #[.val (.ref a1), .val (.int (Int32.ofNat su)), .val (.int (Int32.ofNat (su + mu))), .val (.int (Int32.ofNat bs.length)), .val (.int (Int32.ofNat mu))] [(.ref aq293)])) _
      refine own_back (fun t k => XS.goto X293.here hx rfl (pc0 := 44) (pc' := 57) rfl (hb hby sub_d44) (by decide) (by decide) k) ?_
      show OwnGo p e below (T293.setTop (mkF m 57 #[.val (.ref a1), .val (.int (Int32.ofNat su)), .val (.int (Int32.ofNat (su + mu))), .val (.int (Int32.ofNat bs.length)), .val (.int (Int32.ofNat mu))] [(.ref aq293)])) _
      refine own_retAW X293 hx Bd.notSynchronized Bd.returns rfl rfl hS0 hk298 hZ hEL (hh ▸ CR297) (hb hby sub_d57) rfl (Nat.le_of_ble_eq_true rfl) (Nat.le_of_ble_eq_true rfl) ?_
      exact ⟨_, rfl, N293, own_ext KP295, B293⟩
abbrev own_bl (x : Int32) : Prop := x = 32 ∨ x = 9
abbrev own_r (y : Int32) : Prop := ¬ y < 0 ∧ ¬ (255 : Int32) < y
theorem own_and255 {y : Int32} (h : own_r y) : y &&& (255 : Int32) = y := by
  obtain ⟨h1, h2⟩ := h
  rw [Int32.lt_iff_toInt_lt] at h1 h2
  have z : (0 : Int32).toInt = 0 := rfl
  have z2 : (255 : Int32).toInt = 255 := rfl
  have q := c_mask y 255 8 (by decide) (by decide)
  exact Int32.toInt_inj.mp (by rw [q]; omega)
theorem own_nar {y : Int32} (h : own_r y) : nar .char y = y := by
  have e := own_and255 h
  show y.toUInt32.toUInt16.toUInt32.toInt32 = y
  rw [← e, i2c_mask]
theorem own_narr {y : Int32} (h : own_r y) : own_r (nar .char y) := by rw [own_nar h]; exact h
theorem own_chb {y : Int32} (h : own_r y) : own_ch (own_b y) = y := by
  show (((nar .char y).toInt8.toInt32) &&& (255 : Int32)).toUInt32.toUInt16.toUInt32.toInt32 = y
  rw [own_nar h, i2c_mask]
  obtain ⟨h1, h2⟩ := h
  rw [Int32.lt_iff_toInt_lt] at h1 h2
  have z : (0 : Int32).toInt = 0 := rfl
  have z2 : (255 : Int32).toInt = 255 := rfl
  have q := c_mask y.toInt8.toInt32 255 8 (by decide) (by decide)
  have b := c_i2b y
  exact Int32.toInt_inj.mp (by rw [q]; omega)
abbrev own_L (nn : Nat) (c0 c1 c2 c3 : Int32) : List Int32 := (([own_b c0, own_b c1, own_b c2, own_b c3] : List Int32).take nn)
theorem own_at (c0 c1 c2 c3 : Int32) (r0 : own_r c0) (r1 : own_r c1) (r2 : own_r c2) (r3 : own_r c3) {nn q : Nat} (hn : nn ≤ 4) (hq : q < nn) : own_ch ((own_L nn c0 c1 c2 c3).getD q 0) = [c0, c1, c2, c3].getD q 0 := by
  rw [own_L, List.getD_eq_getElem?_getD, List.getElem?_take_of_lt hq, ← List.getD_eq_getElem?_getD]
  have : q = 0 ∨ q = 1 ∨ q = 2 ∨ q = 3 := by omega
  rcases this with rfl | rfl | rfl | rfl
  · exact own_chb r0
  · exact own_chb r1
  · exact own_chb r2
  · exact own_chb r3
theorem own_at2 (c0 c1 c2 c3 : Int32) (r0 : own_r c0) (r1 : own_r c1) (r2 : own_r c2) (r3 : own_r c3) {nn su mu q : Nat} (hn : nn ≤ 4) (hs : su + mu ≤ nn) (hq : q < mu) : own_ch ((((own_L nn c0 c1 c2 c3).drop su).take mu).getD q 0) = [c0, c1, c2, c3].getD (su + q) 0 := by
  rw [← own_at c0 c1 c2 c3 r0 r1 r2 r3 hn (show su + q < nn by omega)]
  simp only [List.getD_eq_getElem?_getD, List.getElem?_take_of_lt hq, List.getElem?_drop]
theorem own_bll (c0 c1 c2 c3 : Int32) {nn : Nat} (hn : nn ≤ 4) : (own_L nn c0 c1 c2 c3).length = nn := by
  rw [own_L, List.length_take]
  exact Nat.min_eq_left hn
theorem own_rem5 (x : Int32) : ∃ nn : Nat, nn ≤ 4 ∧ ((x &&& (2147483647 : Int32)) % (5 : Int32)) = Int32.ofNat nn := by
  have q := c_mask x 2147483647 31 (by decide) (by decide)
  have r := (c_irem (x &&& 2147483647) 5 5 rfl).1
  refine ⟨((x &&& (2147483647 : Int32)) % (5 : Int32)).toInt.toNat, ?_, ?_⟩
  · omega
  · refine Int32.toInt_inj.mp ?_
    rw [own_i32 (by omega)]
    omega
theorem bla_d0 : decode method_3_code 0 = .ok (.iload_n 0, 1) := by decide +kernel
theorem bla_d1 : decode method_3_code 1 = .ok (.bipush 32, 2) := by decide +kernel
theorem bla_d3 : decode method_3_code 3 = .ok (.if_icmp .eq 9, 3) := by decide +kernel
theorem bla_d6 : decode method_3_code 6 = .ok (.iload_n 0, 1) := by decide +kernel
theorem bla_d7 : decode method_3_code 7 = .ok (.bipush 9, 2) := by decide +kernel
theorem bla_d9 : decode method_3_code 9 = .ok (.if_icmp .ne 7, 3) := by decide +kernel
theorem bla_d12 : decode method_3_code 12 = .ok (.iconst 1, 1) := by decide +kernel
theorem bla_d13 : decode method_3_code 13 = .ok (.goto 4, 3) := by decide +kernel
theorem bla_d16 : decode method_3_code 16 = .ok (.iconst 0, 1) := by decide +kernel
theorem bla_d17 : decode method_3_code 17 = .ok (.ireturn, 1) := by decide +kernel
theorem bla_pn : plainName "com/example/kerbline/kerbline/InputFileTrimBlanksPinLaw" = true := by first | (simp [plainName, overriddenIn]; done) | decide +kernel
theorem bla_ef (m : MethodId) (x0 : Int32) : entryFrame m #[(.int x0)] 1 = mkF m 0 #[.val (.int x0)] [] := by first | (simp [entryFrame, mkF, argsToLocals, Value.category]; done) | rfl
set_option maxRecDepth 65536 in
set_option maxHeartbeats 40000000 in
theorem rm_bla (l : Launch) (Z : State) (a0 : Array Value) (hw : ∀ d ∈ tables_1, d.before a0 Z = true) (ws : List Jvm.Cond) (x1 : Int32) (h0 : Heap) (n0 : Nat) (Z0 : n0 ≤ h0.size)  :
    MetFree l (⟨"com/example/kerbline/kerbline/InputFileTrimBlanksPinLaw", "blank", "(C)Z"⟩ : MethodName) (head1 (Jvm.Cond.code (⟨"com/example/kerbline/kerbline/InputFileTrimBlanksPinLaw", "blank", "(C)Z"⟩ : MethodName) method_3_code 1 (some .boolean) :: ws) ({ frames := 0, cells := 0, slots := 0, locals := 0 } : Room)) (fun a U => a = #[(.int x1)] ∧ Z.Warmed39 U.vm ∧ U.heap = h0) (fun _ _ _ _ _ => True) (fun _ U o U' => OwnEnd U (fun v h L => v = some (.int (if own_bl x1 then 1 else 0)) ∧ Fr n0 L ∧ h = h0) ({ frames := 0, cells := 0, slots := 0, locals := 0 } : Room).cells ({ frames := 0, cells := 0, slots := 0, locals := 0 } : Room).slots o U') := by
  refine MetFree.of_bodySF (plainFor_of_name bla_pn) hisR ?_
  intro p e s m args below meth c s₁ Bd hml0 hP hK
  obtain ⟨rfl, hZ, hh⟩ := hP
  have hx := Bd.exec
  have hby := Bd.bytes
  have hml : c.maxLocals = 1 := hml0
  have hown : s.vm.findClass "com/example/kerbline/kerbline/InputFileTrimBlanksPinLaw" = some m.cls := findClass_of_methodNamed Bd.named
  have hnm := (name_of_methodNamed Bd.named Bd.method).1
  have X0 : Stand p l e ({ frames := 0, cells := 0, slots := 0, locals := 0 } : Room) s m #[(.int x1)] below meth c s₁ [] 0 0 := Stand.of_body Bd
  have e0 : s₁.heap = h0 := by rw [← hh, Bd.state]; rfl
  have N0 := Fr.nil n0
  have KP0 := Keep.refl h0 []
  refine own_go (Q := (OwnEnd s (fun v h L => v = some (.int (if own_bl x1 then 1 else 0)) ∧ Fr n0 L ∧ h = h0) ({ frames := 0, cells := 0, slots := 0, locals := 0 } : Room).cells ({ frames := 0, cells := 0, slots := 0, locals := 0 } : Room).slots)) ?_
  refine own_back (fun t k => castTop (bla_ef m x1) k) ?_
  show OwnGo p e below (s₁.setTop (mkF m 0 #[.val (.int x1)] [])) _
  refine own_back (fun t k => XS.iloadN X0.here hx rfl (hb hby bla_d0) rfl k) ?_
  show OwnGo p e below (s₁.setTop (mkF m 1 #[.val (.int x1)] [(.int x1)])) _
  refine own_back (fun t k => XS.bipush X0.here hx rfl (hb hby bla_d1) k) ?_
  show OwnGo p e below (s₁.setTop (mkF m 3 #[.val (.int x1)] [(.int (32 : Int32)), (.int x1)])) _
  by_cases hc3_303 : x1 = (32 : Int32)
  · refine own_back (fun t k => XS.icmpYes X0.here hx rfl (pc0 := 3) (pc' := 12) rfl (hb hby bla_d3) rfl (Jvm.Free.XT.ii_eq_t hc3_303) (by decide) (by decide) k) ?_
    show OwnGo p e below (s₁.setTop (mkF m 12 #[.val (.int x1)] [])) _
    refine own_back (fun t k => XS.iconst X0.here hx rfl (hb hby bla_d12) k) ?_
    show OwnGo p e below (s₁.setTop (mkF m 13 #[.val (.int x1)] [(.int (1 : Int32))])) _
    refine own_back (fun t k => XS.goto X0.here hx rfl (pc0 := 13) (pc' := 17) rfl (hb hby bla_d13) (by decide) (by decide) k) ?_
    show OwnGo p e below (s₁.setTop (mkF m 17 #[.val (.int x1)] [(.int (1 : Int32))])) _
    refine own_retN X0 hx Bd.notSynchronized (t := .boolean) (z := (1 : Int32)) Bd.returns (by simp) rfl (hb hby bla_d17) e0 (Nat.le_of_ble_eq_true rfl) (Nat.le_of_ble_eq_true rfl) ?_
    exact ⟨by simp [own_bl, hc3_303], N0, rfl⟩
  · refine own_back (fun t k => XS.icmpNo X0.here hx rfl (hb hby bla_d3) rfl (Jvm.Free.XT.ii_eq_f hc3_303) k) ?_
    show OwnGo p e below (s₁.setTop (mkF m 6 #[.val (.int x1)] [])) _
    refine own_back (fun t k => XS.iloadN X0.here hx rfl (hb hby bla_d6) rfl k) ?_
    show OwnGo p e below (s₁.setTop (mkF m 7 #[.val (.int x1)] [(.int x1)])) _
    refine own_back (fun t k => XS.bipush X0.here hx rfl (hb hby bla_d7) k) ?_
    show OwnGo p e below (s₁.setTop (mkF m 9 #[.val (.int x1)] [(.int (9 : Int32)), (.int x1)])) _
    by_cases hc9_304 : x1 = (9 : Int32)
    · refine own_back (fun t k => XS.icmpNo X0.here hx rfl (hb hby bla_d9) rfl (Jvm.Free.XT.ii_ne_f hc9_304) k) ?_
      show OwnGo p e below (s₁.setTop (mkF m 12 #[.val (.int x1)] [])) _
      refine own_back (fun t k => XS.iconst X0.here hx rfl (hb hby bla_d12) k) ?_
      show OwnGo p e below (s₁.setTop (mkF m 13 #[.val (.int x1)] [(.int (1 : Int32))])) _
      refine own_back (fun t k => XS.goto X0.here hx rfl (pc0 := 13) (pc' := 17) rfl (hb hby bla_d13) (by decide) (by decide) k) ?_
      show OwnGo p e below (s₁.setTop (mkF m 17 #[.val (.int x1)] [(.int (1 : Int32))])) _
      refine own_retN X0 hx Bd.notSynchronized (t := .boolean) (z := (1 : Int32)) Bd.returns (by simp) rfl (hb hby bla_d17) e0 (Nat.le_of_ble_eq_true rfl) (Nat.le_of_ble_eq_true rfl) ?_
      exact ⟨by simp [own_bl, hc3_303, hc9_304], N0, rfl⟩
    · refine own_back (fun t k => XS.icmpYes X0.here hx rfl (pc0 := 9) (pc' := 16) rfl (hb hby bla_d9) rfl (Jvm.Free.XT.ii_ne_t hc9_304) (by decide) (by decide) k) ?_
      show OwnGo p e below (s₁.setTop (mkF m 16 #[.val (.int x1)] [])) _
      refine own_back (fun t k => XS.iconst X0.here hx rfl (hb hby bla_d16) k) ?_
      show OwnGo p e below (s₁.setTop (mkF m 17 #[.val (.int x1)] [(.int (0 : Int32))])) _
      refine own_retN X0 hx Bd.notSynchronized (t := .boolean) (z := (0 : Int32)) Bd.returns (by simp) rfl (hb hby bla_d17) e0 (Nat.le_of_ble_eq_true rfl) (Nat.le_of_ble_eq_true rfl) ?_
      exact ⟨by simp [own_bl, hc3_303, hc9_304], N0, rfl⟩
theorem isb_d0 : decode prog_9_method_6_code 0 = .ok (.iload_n 0, 1) := by decide +kernel
theorem isb_d1 : decode prog_9_method_6_code 1 = .ok (.bipush 32, 2) := by decide +kernel
theorem isb_d3 : decode prog_9_method_6_code 3 = .ok (.if_icmp .eq 9, 3) := by decide +kernel
theorem isb_d6 : decode prog_9_method_6_code 6 = .ok (.iload_n 0, 1) := by decide +kernel
theorem isb_d7 : decode prog_9_method_6_code 7 = .ok (.bipush 9, 2) := by decide +kernel
theorem isb_d9 : decode prog_9_method_6_code 9 = .ok (.if_icmp .ne 7, 3) := by decide +kernel
theorem isb_d12 : decode prog_9_method_6_code 12 = .ok (.iconst 1, 1) := by decide +kernel
theorem isb_d13 : decode prog_9_method_6_code 13 = .ok (.goto 4, 3) := by decide +kernel
theorem isb_d16 : decode prog_9_method_6_code 16 = .ok (.iconst 0, 1) := by decide +kernel
theorem isb_d17 : decode prog_9_method_6_code 17 = .ok (.ireturn, 1) := by decide +kernel
theorem isb_pn : plainName "com/example/kerbline/kerbline/InputFile" = true := by first | (simp [plainName, overriddenIn]; done) | decide +kernel
theorem isb_ef (m : MethodId) (x0 : Int32) : entryFrame m #[(.int x0)] 1 = mkF m 0 #[.val (.int x0)] [] := by first | (simp [entryFrame, mkF, argsToLocals, Value.category]; done) | rfl
set_option maxRecDepth 65536 in
set_option maxHeartbeats 40000000 in
theorem rm_isb (l : Launch) (Z : State) (a0 : Array Value) (hw : ∀ d ∈ tables_1, d.before a0 Z = true) (ws : List Jvm.Cond) (x1 : Int32) (h0 : Heap) (n0 : Nat) (Z0 : n0 ≤ h0.size)  :
    MetFree l (⟨"com/example/kerbline/kerbline/InputFile", "isBlank", "(C)Z"⟩ : MethodName) (head1 (Jvm.Cond.code (⟨"com/example/kerbline/kerbline/InputFile", "isBlank", "(C)Z"⟩ : MethodName) prog_9_method_6_code 1 (some .boolean) :: ws) ({ frames := 0, cells := 0, slots := 0, locals := 0 } : Room)) (fun a U => a = #[(.int x1)] ∧ Z.Warmed39 U.vm ∧ U.heap = h0) (fun _ _ _ _ _ => True) (fun _ U o U' => OwnEnd U (fun v h L => v = some (.int (if own_bl x1 then 1 else 0)) ∧ Fr n0 L ∧ h = h0) ({ frames := 0, cells := 0, slots := 0, locals := 0 } : Room).cells ({ frames := 0, cells := 0, slots := 0, locals := 0 } : Room).slots o U') := by
  refine MetFree.of_bodySF (plainFor_of_name isb_pn) hisR ?_
  intro p e s m args below meth c s₁ Bd hml0 hP hK
  obtain ⟨rfl, hZ, hh⟩ := hP
  have hx := Bd.exec
  have hby := Bd.bytes
  have hml : c.maxLocals = 1 := hml0
  have hown : s.vm.findClass "com/example/kerbline/kerbline/InputFile" = some m.cls := findClass_of_methodNamed Bd.named
  have hnm := (name_of_methodNamed Bd.named Bd.method).1
  have X0 : Stand p l e ({ frames := 0, cells := 0, slots := 0, locals := 0 } : Room) s m #[(.int x1)] below meth c s₁ [] 0 0 := Stand.of_body Bd
  have e0 : s₁.heap = h0 := by rw [← hh, Bd.state]; rfl
  have N0 := Fr.nil n0
  have KP0 := Keep.refl h0 []
  refine own_go (Q := (OwnEnd s (fun v h L => v = some (.int (if own_bl x1 then 1 else 0)) ∧ Fr n0 L ∧ h = h0) ({ frames := 0, cells := 0, slots := 0, locals := 0 } : Room).cells ({ frames := 0, cells := 0, slots := 0, locals := 0 } : Room).slots)) ?_
  refine own_back (fun t k => castTop (isb_ef m x1) k) ?_
  show OwnGo p e below (s₁.setTop (mkF m 0 #[.val (.int x1)] [])) _
  refine own_back (fun t k => XS.iloadN X0.here hx rfl (hb hby isb_d0) rfl k) ?_
  show OwnGo p e below (s₁.setTop (mkF m 1 #[.val (.int x1)] [(.int x1)])) _
  refine own_back (fun t k => XS.bipush X0.here hx rfl (hb hby isb_d1) k) ?_
  show OwnGo p e below (s₁.setTop (mkF m 3 #[.val (.int x1)] [(.int (32 : Int32)), (.int x1)])) _
  by_cases hc3_305 : x1 = (32 : Int32)
  · refine own_back (fun t k => XS.icmpYes X0.here hx rfl (pc0 := 3) (pc' := 12) rfl (hb hby isb_d3) rfl (Jvm.Free.XT.ii_eq_t hc3_305) (by decide) (by decide) k) ?_
    show OwnGo p e below (s₁.setTop (mkF m 12 #[.val (.int x1)] [])) _
    refine own_back (fun t k => XS.iconst X0.here hx rfl (hb hby isb_d12) k) ?_
    show OwnGo p e below (s₁.setTop (mkF m 13 #[.val (.int x1)] [(.int (1 : Int32))])) _
    refine own_back (fun t k => XS.goto X0.here hx rfl (pc0 := 13) (pc' := 17) rfl (hb hby isb_d13) (by decide) (by decide) k) ?_
    show OwnGo p e below (s₁.setTop (mkF m 17 #[.val (.int x1)] [(.int (1 : Int32))])) _
    refine own_retN X0 hx Bd.notSynchronized (t := .boolean) (z := (1 : Int32)) Bd.returns (by simp) rfl (hb hby isb_d17) e0 (Nat.le_of_ble_eq_true rfl) (Nat.le_of_ble_eq_true rfl) ?_
    exact ⟨by simp [own_bl, hc3_305], N0, rfl⟩
  · refine own_back (fun t k => XS.icmpNo X0.here hx rfl (hb hby isb_d3) rfl (Jvm.Free.XT.ii_eq_f hc3_305) k) ?_
    show OwnGo p e below (s₁.setTop (mkF m 6 #[.val (.int x1)] [])) _
    refine own_back (fun t k => XS.iloadN X0.here hx rfl (hb hby isb_d6) rfl k) ?_
    show OwnGo p e below (s₁.setTop (mkF m 7 #[.val (.int x1)] [(.int x1)])) _
    refine own_back (fun t k => XS.bipush X0.here hx rfl (hb hby isb_d7) k) ?_
    show OwnGo p e below (s₁.setTop (mkF m 9 #[.val (.int x1)] [(.int (9 : Int32)), (.int x1)])) _
    by_cases hc9_306 : x1 = (9 : Int32)
    · refine own_back (fun t k => XS.icmpNo X0.here hx rfl (hb hby isb_d9) rfl (Jvm.Free.XT.ii_ne_f hc9_306) k) ?_
      show OwnGo p e below (s₁.setTop (mkF m 12 #[.val (.int x1)] [])) _
      refine own_back (fun t k => XS.iconst X0.here hx rfl (hb hby isb_d12) k) ?_
      show OwnGo p e below (s₁.setTop (mkF m 13 #[.val (.int x1)] [(.int (1 : Int32))])) _
      refine own_back (fun t k => XS.goto X0.here hx rfl (pc0 := 13) (pc' := 17) rfl (hb hby isb_d13) (by decide) (by decide) k) ?_
      show OwnGo p e below (s₁.setTop (mkF m 17 #[.val (.int x1)] [(.int (1 : Int32))])) _
      refine own_retN X0 hx Bd.notSynchronized (t := .boolean) (z := (1 : Int32)) Bd.returns (by simp) rfl (hb hby isb_d17) e0 (Nat.le_of_ble_eq_true rfl) (Nat.le_of_ble_eq_true rfl) ?_
      exact ⟨by simp [own_bl, hc3_305, hc9_306], N0, rfl⟩
    · refine own_back (fun t k => XS.icmpYes X0.here hx rfl (pc0 := 9) (pc' := 16) rfl (hb hby isb_d9) rfl (Jvm.Free.XT.ii_ne_t hc9_306) (by decide) (by decide) k) ?_
      show OwnGo p e below (s₁.setTop (mkF m 16 #[.val (.int x1)] [])) _
      refine own_back (fun t k => XS.iconst X0.here hx rfl (hb hby isb_d16) k) ?_
      show OwnGo p e below (s₁.setTop (mkF m 17 #[.val (.int x1)] [(.int (0 : Int32))])) _
      refine own_retN X0 hx Bd.notSynchronized (t := .boolean) (z := (0 : Int32)) Bd.returns (by simp) rfl (hb hby isb_d17) e0 (Nat.le_of_ble_eq_true rfl) (Nat.le_of_ble_eq_true rfl) ?_
      exact ⟨by simp [own_bl, hc3_305, hc9_306], N0, rfl⟩
theorem own_predi {kk : Nat} (h : 1 ≤ kk) : Int32.ofNat kk + (-1 : Int32) = Int32.ofNat (kk - 1) := by
  rw [← own_subi (a := kk) (b := 1) h, Int32.sub_eq_add_neg]
  rfl
theorem trim_d0 : decode prog_9_method_5_code 0 = .ok (.iconst 0, 1) := by decide +kernel
theorem trim_d1 : decode prog_9_method_5_code 1 = .ok (.istore_n 1, 1) := by decide +kernel
theorem trim_d2 : decode prog_9_method_5_code 2 = .ok (.aload_n 0, 1) := by decide +kernel
theorem trim_d3 : decode prog_9_method_5_code 3 = .ok (.invokevirtual 140, 3) := by decide +kernel
theorem trim_d6 : decode prog_9_method_5_code 6 = .ok (.istore_n 2, 1) := by decide +kernel
theorem trim_d7 : decode prog_9_method_5_code 7 = .ok (.iload_n 1, 1) := by decide +kernel
theorem trim_d8 : decode prog_9_method_5_code 8 = .ok (.iload_n 2, 1) := by decide +kernel
theorem trim_d9 : decode prog_9_method_5_code 9 = .ok (.if_icmp .ge 20, 3) := by decide +kernel
theorem trim_d12 : decode prog_9_method_5_code 12 = .ok (.aload_n 0, 1) := by decide +kernel
theorem trim_d13 : decode prog_9_method_5_code 13 = .ok (.iload_n 1, 1) := by decide +kernel
theorem trim_d14 : decode prog_9_method_5_code 14 = .ok (.invokevirtual 144, 3) := by decide +kernel
theorem trim_d17 : decode prog_9_method_5_code 17 = .ok (.invokestatic 148, 3) := by decide +kernel
theorem trim_d20 : decode prog_9_method_5_code 20 = .ok (.ifCond .eq 9, 3) := by decide +kernel
theorem trim_d23 : decode prog_9_method_5_code 23 = .ok (.iinc 1 1, 3) := by decide +kernel
theorem trim_d26 : decode prog_9_method_5_code 26 = .ok (.goto (-19), 3) := by decide +kernel
theorem trim_d29 : decode prog_9_method_5_code 29 = .ok (.iload_n 2, 1) := by decide +kernel
theorem trim_d30 : decode prog_9_method_5_code 30 = .ok (.iload_n 1, 1) := by decide +kernel
theorem trim_d31 : decode prog_9_method_5_code 31 = .ok (.if_icmp .le 22, 3) := by decide +kernel
theorem trim_d34 : decode prog_9_method_5_code 34 = .ok (.aload_n 0, 1) := by decide +kernel
theorem trim_d35 : decode prog_9_method_5_code 35 = .ok (.iload_n 2, 1) := by decide +kernel
theorem trim_d36 : decode prog_9_method_5_code 36 = .ok (.iconst 1, 1) := by decide +kernel
theorem trim_d37 : decode prog_9_method_5_code 37 = .ok (.isub, 1) := by decide +kernel
theorem trim_d38 : decode prog_9_method_5_code 38 = .ok (.invokevirtual 144, 3) := by decide +kernel
theorem trim_d41 : decode prog_9_method_5_code 41 = .ok (.invokestatic 148, 3) := by decide +kernel
theorem trim_d44 : decode prog_9_method_5_code 44 = .ok (.ifCond .eq 9, 3) := by decide +kernel
theorem trim_d47 : decode prog_9_method_5_code 47 = .ok (.iinc 2 (-1), 3) := by decide +kernel
theorem trim_d50 : decode prog_9_method_5_code 50 = .ok (.goto (-21), 3) := by decide +kernel
theorem trim_d53 : decode prog_9_method_5_code 53 = .ok (.aload_n 0, 1) := by decide +kernel
theorem trim_d54 : decode prog_9_method_5_code 54 = .ok (.iload_n 1, 1) := by decide +kernel
theorem trim_d55 : decode prog_9_method_5_code 55 = .ok (.iload_n 2, 1) := by decide +kernel
theorem trim_d56 : decode prog_9_method_5_code 56 = .ok (.invokevirtual 152, 3) := by decide +kernel
theorem trim_d59 : decode prog_9_method_5_code 59 = .ok (.areturn, 1) := by decide +kernel
theorem trim_pn : plainName "com/example/kerbline/kerbline/InputFile" = true := by first | (simp [plainName, overriddenIn]; done) | decide +kernel
theorem trim_pd0 : parseMethodDescriptor "()I" = some ⟨[], some .int⟩ := by decide +kernel
theorem trim_pd1 : parseMethodDescriptor "(I)C" = some ⟨[.int], some .char⟩ := by decide +kernel
theorem trim_pd2 : parseMethodDescriptor "(C)Z" = some ⟨[.char], some .boolean⟩ := by decide +kernel
theorem trim_pd3 : parseMethodDescriptor "(II)Ljava/lang/String;" = some ⟨[.int, .int], some (.object "java/lang/String")⟩ := by decide +kernel
theorem trim_ef (m : MethodId) (x0 : Addr) : entryFrame m #[(.ref x0)] 3 = mkF m 0 #[.val (.ref x0), .unset, .unset] [] := by first | (simp [entryFrame, mkF, argsToLocals, Value.category]; done) | rfl
set_option maxRecDepth 65536 in
set_option maxHeartbeats 40000000 in
theorem rm_trim (l : Launch) (Z : State) (a0 : Array Value) (hw : ∀ d ∈ tables_1, d.before a0 Z = true) (ws : List Jvm.Cond) (a1 : Addr) (bs : List Int32) (su : Nat) (eu : Nat) (cz : Int32) (fm : Value) (h0 : Heap) (n0 : Nat) (Z0 : n0 ≤ h0.size) (OL : Old Z n0 h0) (B1 : OwnStr Z h0 a1 bs) (hA : ∀ q, q < su → own_bl (own_ch (bs.getD q 0))) (hB : su < bs.length → ¬ own_bl (own_ch (bs.getD su 0))) (hC : ∀ q, eu ≤ q → q < bs.length → own_bl (own_ch (bs.getD q 0))) (hD : su < eu → ¬ own_bl (own_ch (bs.getD (eu - 1) 0))) (hse : su ≤ eu) (hel : eu ≤ bs.length) (hb4 : bs.length ≤ 4) (SC : Sta Z Z.heap "java/lang/String" "COMPACT_STRINGS" "Z" (.int cz)) (hcz : ¬ cz = 0) (SO : Sta Z Z.heap "jdk/internal/util/Preconditions" "SIOOBE_FORMATTER" "Ljava/util/function/BiFunction;" fm) (hfm : fm.isRef = true) :
    MetFree l (⟨"com/example/kerbline/kerbline/InputFile", "trimBlanks", "(Ljava/lang/String;)Ljava/lang/String;"⟩ : MethodName) (head1 (Jvm.Cond.code (⟨"com/example/kerbline/kerbline/InputFile", "trimBlanks", "(Ljava/lang/String;)Ljava/lang/String;"⟩ : MethodName) prog_9_method_5_code 3 (some (.object "java/lang/String")) :: ws) ({ frames := 5, cells := 4, slots := 8, locals := 170 } : Room)) (fun a U => a = #[(.ref a1)] ∧ Z.Warmed39 U.vm ∧ U.heap = h0 ∧ CHv Z own_EL U.vm h0 ∧ ∀ x ∈ ([] : List Addr), Safe Z own_EL U.vm h0 x) (fun _ _ _ _ _ => True) (fun _ U o U' => OwnEndW Z own_EL U (fun v h L => ∃ a, v = some (.ref a) ∧ Fr n0 L ∧ Ext h0 h ∧ OwnStr Z h a ((bs.drop su).take (eu - su))) ({ frames := 5, cells := 4, slots := 8, locals := 170 } : Room).cells ({ frames := 5, cells := 4, slots := 8, locals := 170 } : Room).slots o U') := by
  refine MetFree.of_bodySF (plainFor_of_name trim_pn) hisR ?_
  intro p e s m args below meth c s₁ Bd hml0 hP hK
  obtain ⟨rfl, hZ, hh, hCH, hSL⟩ := hP
  have hx := Bd.exec
  have hby := Bd.bytes
  have hml : c.maxLocals = 3 := hml0
  have hown : s.vm.findClass "com/example/kerbline/kerbline/InputFile" = some m.cls := findClass_of_methodNamed Bd.named
  have hnm := (name_of_methodNamed Bd.named Bd.method).1
  have X0 : Stand p l e ({ frames := 5, cells := 4, slots := 8, locals := 170 } : Room) (s.setVm s.vm) m #[(.ref a1)] below meth c s₁ [] 0 0 := Stand.of_body Bd
  have e0 : s₁.heap = h0 := by rw [← hh, Bd.state]; rfl
  have N0 := Fr.nil n0
  have KP0 := Keep.refl h0 []
  have hown : (s.setVm s.vm).vm.findClass "com/example/kerbline/kerbline/InputFile" = some m.cls := hown
  have hZ : Z.Warmed39 (s.setVm s.vm).vm := hZ
  have hS0 : s.Since s.vm 0 := (State.WarmedH.refl s).since 0
  have hk0 : 0 ≤ h0.size := Nat.zero_le _
  have CR0 : CHr Z own_EL s.vm h0 s.vm h0 := CHr.refl hCH
  have hEL := own_EW hw
  refine own_go (Q := (OwnEndW Z own_EL s (fun v h L => ∃ a, v = some (.ref a) ∧ Fr n0 L ∧ Ext h0 h ∧ OwnStr Z h a ((bs.drop su).take (eu - su))) ({ frames := 5, cells := 4, slots := 8, locals := 170 } : Room).cells ({ frames := 5, cells := 4, slots := 8, locals := 170 } : Room).slots)) ?_
  refine own_back (fun t k => castTop (trim_ef m a1) k) ?_
  show OwnGo p e below (s₁.setTop (mkF m 0 #[.val (.ref a1), .unset, .unset] [])) _
  have E1 := B1.exa
  refine own_back (fun t k => XS.iconst X0.here hx rfl (hb hby trim_d0) k) ?_
  show OwnGo p e below (s₁.setTop (mkF m 1 #[.val (.ref a1), .unset, .unset] [(.int (0 : Int32))])) _
  refine own_back (fun t k => XS.istoreN X0.here hx rfl (hb hby trim_d1) rfl (l' := #[.val (.ref a1), .val (.int (0 : Int32)), .unset]) rfl k) ?_
  show OwnGo p e below (s₁.setTop (mkF m 2 #[.val (.ref a1), .val (.int (0 : Int32)), .unset] [])) _
  refine own_back (fun t k => XS.aloadN X0.here hx rfl (hb hby trim_d2) rfl rfl k) ?_
  show OwnGo p e below (s₁.setTop (mkF m 3 #[.val (.ref a1), .val (.int (0 : Int32)), .unset] [(.ref a1)])) _
  obtain ⟨cq307, kq307, q307a, q307b, q307c⟩ := isOf hZ e0 B1.exa
  obtain ⟨_, _, ⟨T307, L307, k307, n307⟩, -, X307, ⟨Lc307, hQ307, l307, y307, z307⟩, st307⟩ := X0.virtualBack hx (y := (⟨"java/lang/String", "length", "()I"⟩ : MethodName)) (z := (⟨"java/lang/String", "length", "()I"⟩ : MethodName)) hown (mvT hZ (hw _ (List.mem_of_getElem? (i := 34) rfl))) (mvT hZ (hw _ (List.mem_of_getElem? (i := 35) rfl))) (notFace_of_selects (args := #[]) (mvT hZ (hw _ (List.mem_of_getElem? (i := 37) rfl)))) (mvT hZ (hw _ (List.mem_of_getElem? (i := 37) rfl))) (mvT hZ (hw _ (List.mem_of_getElem? (i := 36) rfl))) (by decide) (own_backN (W := 0) (rm_len l Z a0 hw [] a1 bs cz h0 n0 Z0 OL B1 SC hcz) hZ (hw _ (List.mem_of_getElem? (i := 38) rfl)) (hw _ (List.mem_of_getElem? (i := 11) rfl)) (by decide) (by decide)) q307a q307c (g := (mkF m 3 #[.val (.ref a1), .val (.int (0 : Int32)), .unset] [(.ref a1)])) rfl (by rw [hml]; rfl) (Steps.refl _) (argsL := []) (rest := []) (lenOf trim_pd0 rfl) rfl (by show 2 * 0 + _ ≤ _; exact Nat.le_of_eq rfl) (hb hby trim_d3) (fun _ _ => ⟨rfl, e0, Nat.le_of_ble_eq_true rfl, Nat.le_of_ble_eq_true rfl⟩)
  dsimp only [Pt.U, Pt.locs, Pt.cells, Pt.slots] at X307 l307 y307 z307 st307 hQ307
  subst l307 y307 z307
  obtain ⟨rfl, N307q, hh307⟩ := hQ307
  refine own_seq st307 ?_
  have N307 := Fr.app N0 N307q
  show OwnGo p e below (T307.setTop (mkF m 6 #[.val (.ref a1), .val (.int (0 : Int32)), .unset] [(.int (Int32.ofNat bs.length))])) _
  refine own_back (fun t k => XS.istoreN X307.here hx rfl (hb hby trim_d6) rfl (l' := #[.val (.ref a1), .val (.int (0 : Int32)), .val (.int (Int32.ofNat bs.length))]) rfl k) ?_
  show OwnGo p e below (T307.setTop (mkF m 7 #[.val (.ref a1), .val (.int (0 : Int32)), .val (.int (Int32.ofNat bs.length))] [])) _
  have lp29_308 : ∀ (jj : Nat) (Tj308 : State) (hj308 : Heap) (kk : Nat), OwnSt p l e ({ frames := 5, cells := 4, slots := 8, locals := 170 } : Room) s m #[(.ref a1)] below meth c Z own_EL "com/example/kerbline/kerbline/InputFile" n0 h0 [] Tj308 hj308 0 0 → (OwnStr Z hj308 a1 bs) → (kk = eu + jj) → (kk ≤ bs.length) → OwnGo p e below (Tj308.setTop (mkF m 29 #[.val (.ref a1), .val (.int (Int32.ofNat su)), .val (.int (Int32.ofNat kk))] [])) (OwnEndW Z own_EL s (fun v h L => ∃ a, v = some (.ref a) ∧ Fr n0 L ∧ Ext h0 h ∧ OwnStr Z h a ((bs.drop su).take (eu - su))) ({ frames := 5, cells := 4, slots := 8, locals := 170 } : Room).cells ({ frames := 5, cells := 4, slots := 8, locals := 170 } : Room).slots) := by
    intro jj
    induction jj with
    | zero =>
      intro Tj309 hj309 kk HS309 hs309_0 hkk hkl
      obtain ⟨vj309, kj309, Lj309, Xj309, ej309, hSj309, hkj309, hZj309, hownj309, CRj309, Oj309, KPj309, Zj309, Nj309⟩ := HS309
      show OwnGo p e below (Tj309.setTop (mkF m 29 #[.val (.ref a1), .val (.int (Int32.ofNat su)), .val (.int (Int32.ofNat kk))] [])) _
      obtain rfl : kk = eu := by omega
      by_cases hlt : su < kk
      · show OwnGo p e below (Tj309.setTop (mkF m 29 #[.val (.ref a1), .val (.int (Int32.ofNat su)), .val (.int (Int32.ofNat kk))] [])) _
        refine own_back (fun t k => XS.iloadN Xj309.here hx rfl (hb hby trim_d29) rfl k) ?_
        show OwnGo p e below (Tj309.setTop (mkF m 30 #[.val (.ref a1), .val (.int (Int32.ofNat su)), .val (.int (Int32.ofNat kk))] [(.int (Int32.ofNat kk))])) _
        refine own_back (fun t k => XS.iloadN Xj309.here hx rfl (hb hby trim_d30) rfl k) ?_
        show OwnGo p e below (Tj309.setTop (mkF m 31 #[.val (.ref a1), .val (.int (Int32.ofNat su)), .val (.int (Int32.ofNat kk))] [(.int (Int32.ofNat su)), (.int (Int32.ofNat kk))])) _
        refine own_back (fun t k => XS.icmpNo Xj309.here hx rfl (hb hby trim_d31) rfl (Jvm.Free.XT.ii_le_f (own_lti (by omega) hlt)) k) ?_
        show OwnGo p e below (Tj309.setTop (mkF m 34 #[.val (.ref a1), .val (.int (Int32.ofNat su)), .val (.int (Int32.ofNat kk))] [])) _
        refine own_back (fun t k => XS.aloadN Xj309.here hx rfl (hb hby trim_d34) rfl rfl k) ?_
        show OwnGo p e below (Tj309.setTop (mkF m 35 #[.val (.ref a1), .val (.int (Int32.ofNat su)), .val (.int (Int32.ofNat kk))] [(.ref a1)])) _
        refine own_back (fun t k => XS.iloadN Xj309.here hx rfl (hb hby trim_d35) rfl k) ?_
        show OwnGo p e below (Tj309.setTop (mkF m 36 #[.val (.ref a1), .val (.int (Int32.ofNat su)), .val (.int (Int32.ofNat kk))] [(.int (Int32.ofNat kk)), (.ref a1)])) _
        refine own_back (fun t k => XS.iconst Xj309.here hx rfl (hb hby trim_d36) k) ?_
        show OwnGo p e below (Tj309.setTop (mkF m 37 #[.val (.ref a1), .val (.int (Int32.ofNat su)), .val (.int (Int32.ofNat kk))] [(.int (1 : Int32)), (.int (Int32.ofNat kk)), (.ref a1)])) _
        refine own_back (fun t k => XS.isub Xj309.here hx rfl (hb hby trim_d37) rfl k) ?_
        show OwnGo p e below (Tj309.setTop (mkF m 38 #[.val (.ref a1), .val (.int (Int32.ofNat su)), .val (.int (Int32.ofNat kk))] [(.int ((Int32.ofNat kk) - (1 : Int32))), (.ref a1)])) _
        rw [show (Int32.ofNat kk - (1 : Int32)) = Int32.ofNat (kk - 1) from own_subi (a := kk) (b := 1) (by omega)]
        show OwnGo p e below (Tj309.setTop (mkF m 38 #[.val (.ref a1), .val (.int (Int32.ofNat su)), .val (.int (Int32.ofNat kk))] [(.int (Int32.ofNat (kk - 1))), (.ref a1)])) _
        obtain ⟨cq310, kq310, q310a, q310b, q310c⟩ := isOf hZj309 ej309 hs309_0.exa
        obtain ⟨_, _, ⟨T310, L310, k310, n310⟩, -, X310, ⟨Lc310, hQ310, l310, y310, z310⟩, st310⟩ := Xj309.virtualBack hx (y := (⟨"java/lang/String", "charAt", "(I)C"⟩ : MethodName)) (z := (⟨"java/lang/String", "charAt", "(I)C"⟩ : MethodName)) hownj309 (mvT hZj309 (hw _ (List.mem_of_getElem? (i := 73) rfl))) (mvT hZj309 (hw _ (List.mem_of_getElem? (i := 74) rfl))) (notFace_of_selects (args := #[]) (mvT hZj309 (hw _ (List.mem_of_getElem? (i := 76) rfl)))) (mvT hZj309 (hw _ (List.mem_of_getElem? (i := 76) rfl))) (mvT hZj309 (hw _ (List.mem_of_getElem? (i := 75) rfl))) (by decide) (own_backN (W := 0) (rm_ch l Z a0 hw [] a1 bs (kk - 1) cz fm hj309 n0 Zj309 Oj309 hs309_0 (by omega) SC hcz SO hfm) hZj309 (hw _ (List.mem_of_getElem? (i := 77) rfl)) (hw _ (List.mem_of_getElem? (i := 11) rfl)) (by decide) (by decide)) q310a q310c (g := (mkF m 38 #[.val (.ref a1), .val (.int (Int32.ofNat su)), .val (.int (Int32.ofNat kk))] [(.int (Int32.ofNat (kk - 1))), (.ref a1)])) rfl (by rw [hml]; rfl) (Steps.refl _) (argsL := [(.int (Int32.ofNat (kk - 1)))]) (rest := []) (lenOf trim_pd1 rfl) rfl (by show 2 * 0 + _ ≤ _; exact Nat.le_of_eq rfl) (hb hby trim_d38) (fun _ _ => ⟨rfl, ej309, Nat.le_of_ble_eq_true rfl, Nat.le_of_ble_eq_true rfl⟩)
        dsimp only [Pt.U, Pt.locs, Pt.cells, Pt.slots] at X310 l310 y310 z310 st310 hQ310
        subst l310 y310 z310
        obtain ⟨rfl, N310q, hh310⟩ := hQ310
        refine own_seq st310 ?_
        have N310 := Fr.app Nj309 N310q
        show OwnGo p e below (T310.setTop (mkF m 41 #[.val (.ref a1), .val (.int (Int32.ofNat su)), .val (.int (Int32.ofNat kk))] [(.int (own_ch (bs.getD (kk - 1) 0)))])) _
        obtain ⟨_, _, ⟨T311, L311, k311, n311⟩, -, X311, ⟨Lc311, hQ311, l311, y311, z311⟩, st311⟩ := Jvm.LawKit.callS X310 hx (y := (⟨"com/example/kerbline/kerbline/InputFile", "isBlank", "(C)Z"⟩ : MethodName)) hownj309 (mvT hZj309 (hw _ (List.mem_of_getElem? (i := 93) rfl))) (mvT hZj309 (hw _ (List.mem_of_getElem? (i := 94) rfl))) (mvT hZj309 (hw _ (List.mem_of_getElem? (i := 32) rfl))) (mvT hZj309 (hw _ (List.mem_of_getElem? (i := 95) rfl))) (by decide) (own_backN (W := 0) (rm_isb l Z a0 hw [] (own_ch (bs.getD (kk - 1) 0)) hj309 n0 Zj309) hZj309 (hw _ (List.mem_of_getElem? (i := 95) rfl)) (hw _ (List.mem_of_getElem? (i := 32) rfl)) (by decide) (by decide)) (g := (mkF m 41 #[.val (.ref a1), .val (.int (Int32.ofNat su)), .val (.int (Int32.ofNat kk))] [(.int (own_ch (bs.getD (kk - 1) 0)))])) rfl (by rw [hml]; rfl) (argsL := [(.int (own_ch (bs.getD (kk - 1) 0)))]) (rest := []) (lenOf trim_pd2 rfl) rfl (by show 2 * 0 + _ ≤ _; exact Nat.le_of_eq rfl) (hb hby trim_d41) (fun _ _ => ⟨rfl, hh310, Nat.le_of_ble_eq_true rfl, Nat.le_of_ble_eq_true rfl⟩)
        dsimp only [Pt.U, Pt.locs, Pt.cells, Pt.slots] at X311 l311 y311 z311 st311 hQ311
        subst l311 y311 z311
        rw [if_neg (hD hlt)] at hQ311
        obtain ⟨rfl, N311q, hh311⟩ := hQ311
        refine own_back st311 ?_
        have N311 := Fr.app N310 N311q
        show OwnGo p e below (T311.setTop (mkF m 44 #[.val (.ref a1), .val (.int (Int32.ofNat su)), .val (.int (Int32.ofNat kk))] [(.int (0 : Int32))])) _
        refine own_back (fun t k => XS.ifYes X311.here hx rfl (pc0 := 44) (pc' := 53) rfl (hb hby trim_d44) rfl (Jvm.Free.XT.i0_eq_t (by decide)) (by decide) (by decide) k) ?_
        show OwnGo p e below (T311.setTop (mkF m 53 #[.val (.ref a1), .val (.int (Int32.ofNat su)), .val (.int (Int32.ofNat kk))] [])) _
        refine own_back (fun t k => XS.aloadN X311.here hx rfl (hb hby trim_d53) rfl rfl k) ?_
        show OwnGo p e below (T311.setTop (mkF m 54 #[.val (.ref a1), .val (.int (Int32.ofNat su)), .val (.int (Int32.ofNat kk))] [(.ref a1)])) _
        refine own_back (fun t k => XS.iloadN X311.here hx rfl (hb hby trim_d54) rfl k) ?_
        show OwnGo p e below (T311.setTop (mkF m 55 #[.val (.ref a1), .val (.int (Int32.ofNat su)), .val (.int (Int32.ofNat kk))] [(.int (Int32.ofNat su)), (.ref a1)])) _
        refine own_back (fun t k => XS.iloadN X311.here hx rfl (hb hby trim_d55) rfl k) ?_
        show OwnGo p e below (T311.setTop (mkF m 56 #[.val (.ref a1), .val (.int (Int32.ofNat su)), .val (.int (Int32.ofNat kk))] [(.int (Int32.ofNat kk)), (.int (Int32.ofNat su)), (.ref a1)])) _
        rw [show (Int32.ofNat kk) = Int32.ofNat (su + (kk - su)) from congrArg _ (by omega)]
        show OwnGo p e below (T311.setTop (mkF m 56 #[.val (.ref a1), .val (.int (Int32.ofNat su)), .val (.int (Int32.ofNat (su + (kk - su))))] [(.int (Int32.ofNat (su + (kk - su)))), (.int (Int32.ofNat su)), (.ref a1)])) _
        obtain ⟨cq312, kq312, q312a, q312b, q312c⟩ := isOf hZj309 hh311 hs309_0.exa
        obtain ⟨_, _, ⟨T312, L312, k312, n312⟩, -, X312, hSn312, hgr312, ⟨Lc312, hQ312, l312, y312, z312, CRn312⟩, st312⟩ := X311.virtualBackS hx (y := (⟨"java/lang/String", "substring", "(II)Ljava/lang/String;"⟩ : MethodName)) (z := (⟨"java/lang/String", "substring", "(II)Ljava/lang/String;"⟩ : MethodName)) hownj309 (mvT hZj309 (hw _ (List.mem_of_getElem? (i := 45) rfl))) (mvT hZj309 (hw _ (List.mem_of_getElem? (i := 46) rfl))) (notFace_of_selects (args := #[]) (mvT hZj309 (hw _ (List.mem_of_getElem? (i := 48) rfl)))) (mvT hZj309 (hw _ (List.mem_of_getElem? (i := 48) rfl))) (mvT hZj309 (hw _ (List.mem_of_getElem? (i := 47) rfl))) (by decide) (own_backH (W := 0) (rm_sub l Z a0 hw [] a1 bs su (kk - su) cz fm hj309 n0 Zj309 Oj309 hs309_0 (by omega) (by omega) SC hcz SO hfm) hZj309 (hw _ (List.mem_of_getElem? (i := 49) rfl)) (hw _ (List.mem_of_getElem? (i := 11) rfl)) (by decide) (by decide) hEL CRj309.1 sf0 all0) q312a q312c (g := (mkF m 56 #[.val (.ref a1), .val (.int (Int32.ofNat su)), .val (.int (Int32.ofNat (su + (kk - su))))] [(.int (Int32.ofNat (su + (kk - su)))), (.int (Int32.ofNat su)), (.ref a1)])) rfl (by rw [hml]; rfl) (Steps.refl _) (argsL := [(.int (Int32.ofNat su)), (.int (Int32.ofNat (su + (kk - su))))]) (rest := []) (lenOf trim_pd3 rfl) rfl (by show 2 * 0 + _ ≤ _; exact Nat.le_of_eq rfl) (hb hby trim_d56) (fun _ _ => ⟨rfl, hh311, Nat.le_of_ble_eq_true rfl, Nat.le_of_ble_eq_true rfl⟩)
        dsimp only [Pt.U, Pt.locs, Pt.cells, Pt.slots] at X312 l312 y312 z312 st312 hQ312 hSn312 hgr312 CRn312
        subst l312 y312 z312
        obtain ⟨Xr312, hSr312, hZr312, hownr312⟩ := rebS hSj309 (own_hle hh311 hkj309) X312 hSn312 hgr312 hZj309 hownj309
        obtain ⟨aq312, rfl, N312q, E312, B312⟩ := hQ312
        refine own_seq st312 ?_
        have N312 := Fr.app N311 N312q
        have O313 := Oj309.ext E312
        have KP314 := KPj309.ext E312
        have Zs315 := Nat.le_trans Zj309 E312.1
        have CR316 := CRj309.trans CRn312
        have f317 := hs309_0.ext E312
        show OwnGo p e below (T312.setTop (mkF m 59 #[.val (.ref a1), .val (.int (Int32.ofNat su)), .val (.int (Int32.ofNat (su + (kk - su))))] [(.ref aq312)])) _
        refine own_retAW Xr312 hx Bd.notSynchronized Bd.returns rfl rfl hSr312 (Nat.le_refl _) hZr312 hEL (hh ▸ CR316) (hb hby trim_d59) rfl (Nat.le_of_ble_eq_true rfl) (Nat.le_of_ble_eq_true rfl) ?_
        exact ⟨_, rfl, N312, own_ext KP314, B312⟩
      · show OwnGo p e below (Tj309.setTop (mkF m 29 #[.val (.ref a1), .val (.int (Int32.ofNat su)), .val (.int (Int32.ofNat kk))] [])) _
        refine own_back (fun t k => XS.iloadN Xj309.here hx rfl (hb hby trim_d29) rfl k) ?_
        show OwnGo p e below (Tj309.setTop (mkF m 30 #[.val (.ref a1), .val (.int (Int32.ofNat su)), .val (.int (Int32.ofNat kk))] [(.int (Int32.ofNat kk))])) _
        refine own_back (fun t k => XS.iloadN Xj309.here hx rfl (hb hby trim_d30) rfl k) ?_
        show OwnGo p e below (Tj309.setTop (mkF m 31 #[.val (.ref a1), .val (.int (Int32.ofNat su)), .val (.int (Int32.ofNat kk))] [(.int (Int32.ofNat su)), (.int (Int32.ofNat kk))])) _
        refine own_back (fun t k => XS.icmpYes Xj309.here hx rfl (pc0 := 31) (pc' := 53) rfl (hb hby trim_d31) rfl (Jvm.Free.XT.ii_le_t (own_nlti (by omega) (by omega))) (by decide) (by decide) k) ?_
        show OwnGo p e below (Tj309.setTop (mkF m 53 #[.val (.ref a1), .val (.int (Int32.ofNat su)), .val (.int (Int32.ofNat kk))] [])) _
        refine own_back (fun t k => XS.aloadN Xj309.here hx rfl (hb hby trim_d53) rfl rfl k) ?_
        show OwnGo p e below (Tj309.setTop (mkF m 54 #[.val (.ref a1), .val (.int (Int32.ofNat su)), .val (.int (Int32.ofNat kk))] [(.ref a1)])) _
        refine own_back (fun t k => XS.iloadN Xj309.here hx rfl (hb hby trim_d54) rfl k) ?_
        show OwnGo p e below (Tj309.setTop (mkF m 55 #[.val (.ref a1), .val (.int (Int32.ofNat su)), .val (.int (Int32.ofNat kk))] [(.int (Int32.ofNat su)), (.ref a1)])) _
        refine own_back (fun t k => XS.iloadN Xj309.here hx rfl (hb hby trim_d55) rfl k) ?_
        show OwnGo p e below (Tj309.setTop (mkF m 56 #[.val (.ref a1), .val (.int (Int32.ofNat su)), .val (.int (Int32.ofNat kk))] [(.int (Int32.ofNat kk)), (.int (Int32.ofNat su)), (.ref a1)])) _
        rw [show (Int32.ofNat kk) = Int32.ofNat (su + (kk - su)) from congrArg _ (by omega)]
        show OwnGo p e below (Tj309.setTop (mkF m 56 #[.val (.ref a1), .val (.int (Int32.ofNat su)), .val (.int (Int32.ofNat (su + (kk - su))))] [(.int (Int32.ofNat (su + (kk - su)))), (.int (Int32.ofNat su)), (.ref a1)])) _
        obtain ⟨cq318, kq318, q318a, q318b, q318c⟩ := isOf hZj309 ej309 hs309_0.exa
        obtain ⟨_, _, ⟨T318, L318, k318, n318⟩, -, X318, hSn318, hgr318, ⟨Lc318, hQ318, l318, y318, z318, CRn318⟩, st318⟩ := Xj309.virtualBackS hx (y := (⟨"java/lang/String", "substring", "(II)Ljava/lang/String;"⟩ : MethodName)) (z := (⟨"java/lang/String", "substring", "(II)Ljava/lang/String;"⟩ : MethodName)) hownj309 (mvT hZj309 (hw _ (List.mem_of_getElem? (i := 45) rfl))) (mvT hZj309 (hw _ (List.mem_of_getElem? (i := 46) rfl))) (notFace_of_selects (args := #[]) (mvT hZj309 (hw _ (List.mem_of_getElem? (i := 48) rfl)))) (mvT hZj309 (hw _ (List.mem_of_getElem? (i := 48) rfl))) (mvT hZj309 (hw _ (List.mem_of_getElem? (i := 47) rfl))) (by decide) (own_backH (W := 0) (rm_sub l Z a0 hw [] a1 bs su (kk - su) cz fm hj309 n0 Zj309 Oj309 hs309_0 (by omega) (by omega) SC hcz SO hfm) hZj309 (hw _ (List.mem_of_getElem? (i := 49) rfl)) (hw _ (List.mem_of_getElem? (i := 11) rfl)) (by decide) (by decide) hEL CRj309.1 sf0 all0) q318a q318c (g := (mkF m 56 #[.val (.ref a1), .val (.int (Int32.ofNat su)), .val (.int (Int32.ofNat (su + (kk - su))))] [(.int (Int32.ofNat (su + (kk - su)))), (.int (Int32.ofNat su)), (.ref a1)])) rfl (by rw [hml]; rfl) (Steps.refl _) (argsL := [(.int (Int32.ofNat su)), (.int (Int32.ofNat (su + (kk - su))))]) (rest := []) (lenOf trim_pd3 rfl) rfl (by show 2 * 0 + _ ≤ _; exact Nat.le_of_eq rfl) (hb hby trim_d56) (fun _ _ => ⟨rfl, ej309, Nat.le_of_ble_eq_true rfl, Nat.le_of_ble_eq_true rfl⟩)
        dsimp only [Pt.U, Pt.locs, Pt.cells, Pt.slots] at X318 l318 y318 z318 st318 hQ318 hSn318 hgr318 CRn318
        subst l318 y318 z318
        obtain ⟨Xr318, hSr318, hZr318, hownr318⟩ := rebS hSj309 (own_hle ej309 hkj309) X318 hSn318 hgr318 hZj309 hownj309
        obtain ⟨aq318, rfl, N318q, E318, B318⟩ := hQ318
        refine own_seq st318 ?_
        have N318 := Fr.app Nj309 N318q
        have O319 := Oj309.ext E318
        have KP320 := KPj309.ext E318
        have Zs321 := Nat.le_trans Zj309 E318.1
        have CR322 := CRj309.trans CRn318
        have f323 := hs309_0.ext E318
        show OwnGo p e below (T318.setTop (mkF m 59 #[.val (.ref a1), .val (.int (Int32.ofNat su)), .val (.int (Int32.ofNat (su + (kk - su))))] [(.ref aq318)])) _
        refine own_retAW Xr318 hx Bd.notSynchronized Bd.returns rfl rfl hSr318 (Nat.le_refl _) hZr318 hEL (hh ▸ CR322) (hb hby trim_d59) rfl (Nat.le_of_ble_eq_true rfl) (Nat.le_of_ble_eq_true rfl) ?_
        exact ⟨_, rfl, N318, own_ext KP320, B318⟩
    | succ jj ih =>
      intro Tj324 hj324 kk HS324 hs324_0 hkk hkl
      obtain ⟨vj324, kj324, Lj324, Xj324, ej324, hSj324, hkj324, hZj324, hownj324, CRj324, Oj324, KPj324, Zj324, Nj324⟩ := HS324
      show OwnGo p e below (Tj324.setTop (mkF m 29 #[.val (.ref a1), .val (.int (Int32.ofNat su)), .val (.int (Int32.ofNat kk))] [])) _
      refine own_back (fun t k => XS.iloadN Xj324.here hx rfl (hb hby trim_d29) rfl k) ?_
      show OwnGo p e below (Tj324.setTop (mkF m 30 #[.val (.ref a1), .val (.int (Int32.ofNat su)), .val (.int (Int32.ofNat kk))] [(.int (Int32.ofNat kk))])) _
      refine own_back (fun t k => XS.iloadN Xj324.here hx rfl (hb hby trim_d30) rfl k) ?_
      show OwnGo p e below (Tj324.setTop (mkF m 31 #[.val (.ref a1), .val (.int (Int32.ofNat su)), .val (.int (Int32.ofNat kk))] [(.int (Int32.ofNat su)), (.int (Int32.ofNat kk))])) _
      refine own_back (fun t k => XS.icmpNo Xj324.here hx rfl (hb hby trim_d31) rfl (Jvm.Free.XT.ii_le_f (own_lti (by omega) (by omega))) k) ?_
      show OwnGo p e below (Tj324.setTop (mkF m 34 #[.val (.ref a1), .val (.int (Int32.ofNat su)), .val (.int (Int32.ofNat kk))] [])) _
      refine own_back (fun t k => XS.aloadN Xj324.here hx rfl (hb hby trim_d34) rfl rfl k) ?_
      show OwnGo p e below (Tj324.setTop (mkF m 35 #[.val (.ref a1), .val (.int (Int32.ofNat su)), .val (.int (Int32.ofNat kk))] [(.ref a1)])) _
      refine own_back (fun t k => XS.iloadN Xj324.here hx rfl (hb hby trim_d35) rfl k) ?_
      show OwnGo p e below (Tj324.setTop (mkF m 36 #[.val (.ref a1), .val (.int (Int32.ofNat su)), .val (.int (Int32.ofNat kk))] [(.int (Int32.ofNat kk)), (.ref a1)])) _
      refine own_back (fun t k => XS.iconst Xj324.here hx rfl (hb hby trim_d36) k) ?_
      show OwnGo p e below (Tj324.setTop (mkF m 37 #[.val (.ref a1), .val (.int (Int32.ofNat su)), .val (.int (Int32.ofNat kk))] [(.int (1 : Int32)), (.int (Int32.ofNat kk)), (.ref a1)])) _
      refine own_back (fun t k => XS.isub Xj324.here hx rfl (hb hby trim_d37) rfl k) ?_
      show OwnGo p e below (Tj324.setTop (mkF m 38 #[.val (.ref a1), .val (.int (Int32.ofNat su)), .val (.int (Int32.ofNat kk))] [(.int ((Int32.ofNat kk) - (1 : Int32))), (.ref a1)])) _
      rw [show (Int32.ofNat kk - (1 : Int32)) = Int32.ofNat (kk - 1) from own_subi (a := kk) (b := 1) (by omega)]
      show OwnGo p e below (Tj324.setTop (mkF m 38 #[.val (.ref a1), .val (.int (Int32.ofNat su)), .val (.int (Int32.ofNat kk))] [(.int (Int32.ofNat (kk - 1))), (.ref a1)])) _
      obtain ⟨cq325, kq325, q325a, q325b, q325c⟩ := isOf hZj324 ej324 hs324_0.exa
      obtain ⟨_, _, ⟨T325, L325, k325, n325⟩, -, X325, ⟨Lc325, hQ325, l325, y325, z325⟩, st325⟩ := Xj324.virtualBack hx (y := (⟨"java/lang/String", "charAt", "(I)C"⟩ : MethodName)) (z := (⟨"java/lang/String", "charAt", "(I)C"⟩ : MethodName)) hownj324 (mvT hZj324 (hw _ (List.mem_of_getElem? (i := 73) rfl))) (mvT hZj324 (hw _ (List.mem_of_getElem? (i := 74) rfl))) (notFace_of_selects (args := #[]) (mvT hZj324 (hw _ (List.mem_of_getElem? (i := 76) rfl)))) (mvT hZj324 (hw _ (List.mem_of_getElem? (i := 76) rfl))) (mvT hZj324 (hw _ (List.mem_of_getElem? (i := 75) rfl))) (by decide) (own_backN (W := 0) (rm_ch l Z a0 hw [] a1 bs (kk - 1) cz fm hj324 n0 Zj324 Oj324 hs324_0 (by omega) SC hcz SO hfm) hZj324 (hw _ (List.mem_of_getElem? (i := 77) rfl)) (hw _ (List.mem_of_getElem? (i := 11) rfl)) (by decide) (by decide)) q325a q325c (g := (mkF m 38 #[.val (.ref a1), .val (.int (Int32.ofNat su)), .val (.int (Int32.ofNat kk))] [(.int (Int32.ofNat (kk - 1))), (.ref a1)])) rfl (by rw [hml]; rfl) (Steps.refl _) (argsL := [(.int (Int32.ofNat (kk - 1)))]) (rest := []) (lenOf trim_pd1 rfl) rfl (by show 2 * 0 + _ ≤ _; exact Nat.le_of_eq rfl) (hb hby trim_d38) (fun _ _ => ⟨rfl, ej324, Nat.le_of_ble_eq_true rfl, Nat.le_of_ble_eq_true rfl⟩)
      dsimp only [Pt.U, Pt.locs, Pt.cells, Pt.slots] at X325 l325 y325 z325 st325 hQ325
      subst l325 y325 z325
      obtain ⟨rfl, N325q, hh325⟩ := hQ325
      refine own_seq st325 ?_
      have N325 := Fr.app Nj324 N325q
      show OwnGo p e below (T325.setTop (mkF m 41 #[.val (.ref a1), .val (.int (Int32.ofNat su)), .val (.int (Int32.ofNat kk))] [(.int (own_ch (bs.getD (kk - 1) 0)))])) _
      obtain ⟨_, _, ⟨T326, L326, k326, n326⟩, -, X326, ⟨Lc326, hQ326, l326, y326, z326⟩, st326⟩ := Jvm.LawKit.callS X325 hx (y := (⟨"com/example/kerbline/kerbline/InputFile", "isBlank", "(C)Z"⟩ : MethodName)) hownj324 (mvT hZj324 (hw _ (List.mem_of_getElem? (i := 93) rfl))) (mvT hZj324 (hw _ (List.mem_of_getElem? (i := 94) rfl))) (mvT hZj324 (hw _ (List.mem_of_getElem? (i := 32) rfl))) (mvT hZj324 (hw _ (List.mem_of_getElem? (i := 95) rfl))) (by decide) (own_backN (W := 0) (rm_isb l Z a0 hw [] (own_ch (bs.getD (kk - 1) 0)) hj324 n0 Zj324) hZj324 (hw _ (List.mem_of_getElem? (i := 95) rfl)) (hw _ (List.mem_of_getElem? (i := 32) rfl)) (by decide) (by decide)) (g := (mkF m 41 #[.val (.ref a1), .val (.int (Int32.ofNat su)), .val (.int (Int32.ofNat kk))] [(.int (own_ch (bs.getD (kk - 1) 0)))])) rfl (by rw [hml]; rfl) (argsL := [(.int (own_ch (bs.getD (kk - 1) 0)))]) (rest := []) (lenOf trim_pd2 rfl) rfl (by show 2 * 0 + _ ≤ _; exact Nat.le_of_eq rfl) (hb hby trim_d41) (fun _ _ => ⟨rfl, hh325, Nat.le_of_ble_eq_true rfl, Nat.le_of_ble_eq_true rfl⟩)
      dsimp only [Pt.U, Pt.locs, Pt.cells, Pt.slots] at X326 l326 y326 z326 st326 hQ326
      subst l326 y326 z326
      rw [if_pos (hC (kk - 1) (by omega) (by omega))] at hQ326
      obtain ⟨rfl, N326q, hh326⟩ := hQ326
      refine own_back st326 ?_
      have N326 := Fr.app N325 N326q
      show OwnGo p e below (T326.setTop (mkF m 44 #[.val (.ref a1), .val (.int (Int32.ofNat su)), .val (.int (Int32.ofNat kk))] [(.int (1 : Int32))])) _
      refine own_back (fun t k => XS.ifNo X326.here hx rfl (hb hby trim_d44) rfl (Jvm.Free.XT.i0_eq_f (by decide)) k) ?_
      show OwnGo p e below (T326.setTop (mkF m 47 #[.val (.ref a1), .val (.int (Int32.ofNat su)), .val (.int (Int32.ofNat kk))] [])) _
      refine own_back (fun t k => XS.iinc X326.here hx rfl (hb hby trim_d47) rfl (l' := #[.val (.ref a1), .val (.int (Int32.ofNat su)), .val (.int ((Int32.ofNat kk) + (-1 : Int32)))]) rfl k) ?_
      show OwnGo p e below (T326.setTop (mkF m 50 #[.val (.ref a1), .val (.int (Int32.ofNat su)), .val (.int ((Int32.ofNat kk) + (-1 : Int32)))] [])) _
      rw [show ((Int32.ofNat kk) + (-1 : Int32)) = Int32.ofNat (kk - 1) from own_predi (by omega)]
      show OwnGo p e below (T326.setTop (mkF m 50 #[.val (.ref a1), .val (.int (Int32.ofNat su)), .val (.int (Int32.ofNat (kk - 1)))] [])) _
      refine own_back (fun t k => XS.goto X326.here hx rfl (pc0 := 50) (pc' := 29) rfl (hb hby trim_d50) (by decide) (by decide) k) ?_
      show OwnGo p e below (T326.setTop (mkF m 29 #[.val (.ref a1), .val (.int (Int32.ofNat su)), .val (.int (Int32.ofNat (kk - 1)))] [])) _
      exact ih _ _ (kk - 1) ⟨_, _, _, X326, hh326, hSj324, hkj324, hZj324, hownj324, CRj324, Oj324, KPj324, Zj324, N326⟩ hs324_0 (by omega) (by omega)
  have lp7_327 : ∀ (jj : Nat) (Tj327 : State) (hj327 : Heap) (i : Nat), OwnSt p l e ({ frames := 5, cells := 4, slots := 8, locals := 170 } : Room) s m #[(.ref a1)] below meth c Z own_EL "com/example/kerbline/kerbline/InputFile" n0 h0 [] Tj327 hj327 0 0 → (OwnStr Z hj327 a1 bs) → (i + jj = su) → OwnGo p e below (Tj327.setTop (mkF m 7 #[.val (.ref a1), .val (.int (Int32.ofNat i)), .val (.int (Int32.ofNat bs.length))] [])) (OwnEndW Z own_EL s (fun v h L => ∃ a, v = some (.ref a) ∧ Fr n0 L ∧ Ext h0 h ∧ OwnStr Z h a ((bs.drop su).take (eu - su))) ({ frames := 5, cells := 4, slots := 8, locals := 170 } : Room).cells ({ frames := 5, cells := 4, slots := 8, locals := 170 } : Room).slots) := by
    intro jj
    induction jj with
    | zero =>
      intro Tj328 hj328 i HS328 hs328_0 hi
      obtain ⟨vj328, kj328, Lj328, Xj328, ej328, hSj328, hkj328, hZj328, hownj328, CRj328, Oj328, KPj328, Zj328, Nj328⟩ := HS328
      show OwnGo p e below (Tj328.setTop (mkF m 7 #[.val (.ref a1), .val (.int (Int32.ofNat i)), .val (.int (Int32.ofNat bs.length))] [])) _
      obtain rfl : i = su := by omega
      by_cases hlt : i < bs.length
      · show OwnGo p e below (Tj328.setTop (mkF m 7 #[.val (.ref a1), .val (.int (Int32.ofNat i)), .val (.int (Int32.ofNat bs.length))] [])) _
        refine own_back (fun t k => XS.iloadN Xj328.here hx rfl (hb hby trim_d7) rfl k) ?_
        show OwnGo p e below (Tj328.setTop (mkF m 8 #[.val (.ref a1), .val (.int (Int32.ofNat i)), .val (.int (Int32.ofNat bs.length))] [(.int (Int32.ofNat i))])) _
        refine own_back (fun t k => XS.iloadN Xj328.here hx rfl (hb hby trim_d8) rfl k) ?_
        show OwnGo p e below (Tj328.setTop (mkF m 9 #[.val (.ref a1), .val (.int (Int32.ofNat i)), .val (.int (Int32.ofNat bs.length))] [(.int (Int32.ofNat bs.length)), (.int (Int32.ofNat i))])) _
        refine own_back (fun t k => XS.icmpNo Xj328.here hx rfl (hb hby trim_d9) rfl (Jvm.Free.XT.ii_ge_f (own_lti (by omega) hlt)) k) ?_
        show OwnGo p e below (Tj328.setTop (mkF m 12 #[.val (.ref a1), .val (.int (Int32.ofNat i)), .val (.int (Int32.ofNat bs.length))] [])) _
        refine own_back (fun t k => XS.aloadN Xj328.here hx rfl (hb hby trim_d12) rfl rfl k) ?_
        show OwnGo p e below (Tj328.setTop (mkF m 13 #[.val (.ref a1), .val (.int (Int32.ofNat i)), .val (.int (Int32.ofNat bs.length))] [(.ref a1)])) _
        refine own_back (fun t k => XS.iloadN Xj328.here hx rfl (hb hby trim_d13) rfl k) ?_
        show OwnGo p e below (Tj328.setTop (mkF m 14 #[.val (.ref a1), .val (.int (Int32.ofNat i)), .val (.int (Int32.ofNat bs.length))] [(.int (Int32.ofNat i)), (.ref a1)])) _
        obtain ⟨cq329, kq329, q329a, q329b, q329c⟩ := isOf hZj328 ej328 hs328_0.exa
        obtain ⟨_, _, ⟨T329, L329, k329, n329⟩, -, X329, ⟨Lc329, hQ329, l329, y329, z329⟩, st329⟩ := Xj328.virtualBack hx (y := (⟨"java/lang/String", "charAt", "(I)C"⟩ : MethodName)) (z := (⟨"java/lang/String", "charAt", "(I)C"⟩ : MethodName)) hownj328 (mvT hZj328 (hw _ (List.mem_of_getElem? (i := 73) rfl))) (mvT hZj328 (hw _ (List.mem_of_getElem? (i := 74) rfl))) (notFace_of_selects (args := #[]) (mvT hZj328 (hw _ (List.mem_of_getElem? (i := 76) rfl)))) (mvT hZj328 (hw _ (List.mem_of_getElem? (i := 76) rfl))) (mvT hZj328 (hw _ (List.mem_of_getElem? (i := 75) rfl))) (by decide) (own_backN (W := 0) (rm_ch l Z a0 hw [] a1 bs i cz fm hj328 n0 Zj328 Oj328 hs328_0 hlt SC hcz SO hfm) hZj328 (hw _ (List.mem_of_getElem? (i := 77) rfl)) (hw _ (List.mem_of_getElem? (i := 11) rfl)) (by decide) (by decide)) q329a q329c (g := (mkF m 14 #[.val (.ref a1), .val (.int (Int32.ofNat i)), .val (.int (Int32.ofNat bs.length))] [(.int (Int32.ofNat i)), (.ref a1)])) rfl (by rw [hml]; rfl) (Steps.refl _) (argsL := [(.int (Int32.ofNat i))]) (rest := []) (lenOf trim_pd1 rfl) rfl (by show 2 * 0 + _ ≤ _; exact Nat.le_of_eq rfl) (hb hby trim_d14) (fun _ _ => ⟨rfl, ej328, Nat.le_of_ble_eq_true rfl, Nat.le_of_ble_eq_true rfl⟩)
        dsimp only [Pt.U, Pt.locs, Pt.cells, Pt.slots] at X329 l329 y329 z329 st329 hQ329
        subst l329 y329 z329
        obtain ⟨rfl, N329q, hh329⟩ := hQ329
        refine own_seq st329 ?_
        have N329 := Fr.app Nj328 N329q
        show OwnGo p e below (T329.setTop (mkF m 17 #[.val (.ref a1), .val (.int (Int32.ofNat i)), .val (.int (Int32.ofNat bs.length))] [(.int (own_ch (bs.getD i 0)))])) _
        obtain ⟨_, _, ⟨T330, L330, k330, n330⟩, -, X330, ⟨Lc330, hQ330, l330, y330, z330⟩, st330⟩ := Jvm.LawKit.callS X329 hx (y := (⟨"com/example/kerbline/kerbline/InputFile", "isBlank", "(C)Z"⟩ : MethodName)) hownj328 (mvT hZj328 (hw _ (List.mem_of_getElem? (i := 93) rfl))) (mvT hZj328 (hw _ (List.mem_of_getElem? (i := 94) rfl))) (mvT hZj328 (hw _ (List.mem_of_getElem? (i := 32) rfl))) (mvT hZj328 (hw _ (List.mem_of_getElem? (i := 95) rfl))) (by decide) (own_backN (W := 0) (rm_isb l Z a0 hw [] (own_ch (bs.getD i 0)) hj328 n0 Zj328) hZj328 (hw _ (List.mem_of_getElem? (i := 95) rfl)) (hw _ (List.mem_of_getElem? (i := 32) rfl)) (by decide) (by decide)) (g := (mkF m 17 #[.val (.ref a1), .val (.int (Int32.ofNat i)), .val (.int (Int32.ofNat bs.length))] [(.int (own_ch (bs.getD i 0)))])) rfl (by rw [hml]; rfl) (argsL := [(.int (own_ch (bs.getD i 0)))]) (rest := []) (lenOf trim_pd2 rfl) rfl (by show 2 * 0 + _ ≤ _; exact Nat.le_of_eq rfl) (hb hby trim_d17) (fun _ _ => ⟨rfl, hh329, Nat.le_of_ble_eq_true rfl, Nat.le_of_ble_eq_true rfl⟩)
        dsimp only [Pt.U, Pt.locs, Pt.cells, Pt.slots] at X330 l330 y330 z330 st330 hQ330
        subst l330 y330 z330
        rw [if_neg (hB hlt)] at hQ330
        obtain ⟨rfl, N330q, hh330⟩ := hQ330
        refine own_back st330 ?_
        have N330 := Fr.app N329 N330q
        show OwnGo p e below (T330.setTop (mkF m 20 #[.val (.ref a1), .val (.int (Int32.ofNat i)), .val (.int (Int32.ofNat bs.length))] [(.int (0 : Int32))])) _
        refine own_back (fun t k => XS.ifYes X330.here hx rfl (pc0 := 20) (pc' := 29) rfl (hb hby trim_d20) rfl (Jvm.Free.XT.i0_eq_t (by decide)) (by decide) (by decide) k) ?_
        show OwnGo p e below (T330.setTop (mkF m 29 #[.val (.ref a1), .val (.int (Int32.ofNat i)), .val (.int (Int32.ofNat bs.length))] [])) _
        exact lp29_308 (bs.length - eu) _ _ bs.length ⟨_, _, _, X330, hh330, hSj328, hkj328, hZj328, hownj328, CRj328, Oj328, KPj328, Zj328, N330⟩ hs328_0 (by omega) (Nat.le_refl _)
      · show OwnGo p e below (Tj328.setTop (mkF m 7 #[.val (.ref a1), .val (.int (Int32.ofNat i)), .val (.int (Int32.ofNat bs.length))] [])) _
        refine own_back (fun t k => XS.iloadN Xj328.here hx rfl (hb hby trim_d7) rfl k) ?_
        show OwnGo p e below (Tj328.setTop (mkF m 8 #[.val (.ref a1), .val (.int (Int32.ofNat i)), .val (.int (Int32.ofNat bs.length))] [(.int (Int32.ofNat i))])) _
        refine own_back (fun t k => XS.iloadN Xj328.here hx rfl (hb hby trim_d8) rfl k) ?_
        show OwnGo p e below (Tj328.setTop (mkF m 9 #[.val (.ref a1), .val (.int (Int32.ofNat i)), .val (.int (Int32.ofNat bs.length))] [(.int (Int32.ofNat bs.length)), (.int (Int32.ofNat i))])) _
        refine own_back (fun t k => XS.icmpYes Xj328.here hx rfl (pc0 := 9) (pc' := 29) rfl (hb hby trim_d9) rfl (Jvm.Free.XT.ii_ge_t (own_nlti (by omega) (by omega))) (by decide) (by decide) k) ?_
        show OwnGo p e below (Tj328.setTop (mkF m 29 #[.val (.ref a1), .val (.int (Int32.ofNat i)), .val (.int (Int32.ofNat bs.length))] [])) _
        exact lp29_308 (bs.length - eu) _ _ bs.length ⟨_, _, _, Xj328, ej328, hSj328, hkj328, hZj328, hownj328, CRj328, Oj328, KPj328, Zj328, Nj328⟩ hs328_0 (by omega) (Nat.le_refl _)
    | succ jj ih =>
      intro Tj331 hj331 i HS331 hs331_0 hi
      obtain ⟨vj331, kj331, Lj331, Xj331, ej331, hSj331, hkj331, hZj331, hownj331, CRj331, Oj331, KPj331, Zj331, Nj331⟩ := HS331
      show OwnGo p e below (Tj331.setTop (mkF m 7 #[.val (.ref a1), .val (.int (Int32.ofNat i)), .val (.int (Int32.ofNat bs.length))] [])) _
      refine own_back (fun t k => XS.iloadN Xj331.here hx rfl (hb hby trim_d7) rfl k) ?_
      show OwnGo p e below (Tj331.setTop (mkF m 8 #[.val (.ref a1), .val (.int (Int32.ofNat i)), .val (.int (Int32.ofNat bs.length))] [(.int (Int32.ofNat i))])) _
      refine own_back (fun t k => XS.iloadN Xj331.here hx rfl (hb hby trim_d8) rfl k) ?_
      show OwnGo p e below (Tj331.setTop (mkF m 9 #[.val (.ref a1), .val (.int (Int32.ofNat i)), .val (.int (Int32.ofNat bs.length))] [(.int (Int32.ofNat bs.length)), (.int (Int32.ofNat i))])) _
      refine own_back (fun t k => XS.icmpNo Xj331.here hx rfl (hb hby trim_d9) rfl (Jvm.Free.XT.ii_ge_f (own_lti (by omega) (by omega))) k) ?_
      show OwnGo p e below (Tj331.setTop (mkF m 12 #[.val (.ref a1), .val (.int (Int32.ofNat i)), .val (.int (Int32.ofNat bs.length))] [])) _
      refine own_back (fun t k => XS.aloadN Xj331.here hx rfl (hb hby trim_d12) rfl rfl k) ?_
      show OwnGo p e below (Tj331.setTop (mkF m 13 #[.val (.ref a1), .val (.int (Int32.ofNat i)), .val (.int (Int32.ofNat bs.length))] [(.ref a1)])) _
      refine own_back (fun t k => XS.iloadN Xj331.here hx rfl (hb hby trim_d13) rfl k) ?_
      show OwnGo p e below (Tj331.setTop (mkF m 14 #[.val (.ref a1), .val (.int (Int32.ofNat i)), .val (.int (Int32.ofNat bs.length))] [(.int (Int32.ofNat i)), (.ref a1)])) _
      obtain ⟨cq332, kq332, q332a, q332b, q332c⟩ := isOf hZj331 ej331 hs331_0.exa
      obtain ⟨_, _, ⟨T332, L332, k332, n332⟩, -, X332, ⟨Lc332, hQ332, l332, y332, z332⟩, st332⟩ := Xj331.virtualBack hx (y := (⟨"java/lang/String", "charAt", "(I)C"⟩ : MethodName)) (z := (⟨"java/lang/String", "charAt", "(I)C"⟩ : MethodName)) hownj331 (mvT hZj331 (hw _ (List.mem_of_getElem? (i := 73) rfl))) (mvT hZj331 (hw _ (List.mem_of_getElem? (i := 74) rfl))) (notFace_of_selects (args := #[]) (mvT hZj331 (hw _ (List.mem_of_getElem? (i := 76) rfl)))) (mvT hZj331 (hw _ (List.mem_of_getElem? (i := 76) rfl))) (mvT hZj331 (hw _ (List.mem_of_getElem? (i := 75) rfl))) (by decide) (own_backN (W := 0) (rm_ch l Z a0 hw [] a1 bs i cz fm hj331 n0 Zj331 Oj331 hs331_0 (by omega) SC hcz SO hfm) hZj331 (hw _ (List.mem_of_getElem? (i := 77) rfl)) (hw _ (List.mem_of_getElem? (i := 11) rfl)) (by decide) (by decide)) q332a q332c (g := (mkF m 14 #[.val (.ref a1), .val (.int (Int32.ofNat i)), .val (.int (Int32.ofNat bs.length))] [(.int (Int32.ofNat i)), (.ref a1)])) rfl (by rw [hml]; rfl) (Steps.refl _) (argsL := [(.int (Int32.ofNat i))]) (rest := []) (lenOf trim_pd1 rfl) rfl (by show 2 * 0 + _ ≤ _; exact Nat.le_of_eq rfl) (hb hby trim_d14) (fun _ _ => ⟨rfl, ej331, Nat.le_of_ble_eq_true rfl, Nat.le_of_ble_eq_true rfl⟩)
      dsimp only [Pt.U, Pt.locs, Pt.cells, Pt.slots] at X332 l332 y332 z332 st332 hQ332
      subst l332 y332 z332
      obtain ⟨rfl, N332q, hh332⟩ := hQ332
      refine own_seq st332 ?_
      have N332 := Fr.app Nj331 N332q
      show OwnGo p e below (T332.setTop (mkF m 17 #[.val (.ref a1), .val (.int (Int32.ofNat i)), .val (.int (Int32.ofNat bs.length))] [(.int (own_ch (bs.getD i 0)))])) _
      obtain ⟨_, _, ⟨T333, L333, k333, n333⟩, -, X333, ⟨Lc333, hQ333, l333, y333, z333⟩, st333⟩ := Jvm.LawKit.callS X332 hx (y := (⟨"com/example/kerbline/kerbline/InputFile", "isBlank", "(C)Z"⟩ : MethodName)) hownj331 (mvT hZj331 (hw _ (List.mem_of_getElem? (i := 93) rfl))) (mvT hZj331 (hw _ (List.mem_of_getElem? (i := 94) rfl))) (mvT hZj331 (hw _ (List.mem_of_getElem? (i := 32) rfl))) (mvT hZj331 (hw _ (List.mem_of_getElem? (i := 95) rfl))) (by decide) (own_backN (W := 0) (rm_isb l Z a0 hw [] (own_ch (bs.getD i 0)) hj331 n0 Zj331) hZj331 (hw _ (List.mem_of_getElem? (i := 95) rfl)) (hw _ (List.mem_of_getElem? (i := 32) rfl)) (by decide) (by decide)) (g := (mkF m 17 #[.val (.ref a1), .val (.int (Int32.ofNat i)), .val (.int (Int32.ofNat bs.length))] [(.int (own_ch (bs.getD i 0)))])) rfl (by rw [hml]; rfl) (argsL := [(.int (own_ch (bs.getD i 0)))]) (rest := []) (lenOf trim_pd2 rfl) rfl (by show 2 * 0 + _ ≤ _; exact Nat.le_of_eq rfl) (hb hby trim_d17) (fun _ _ => ⟨rfl, hh332, Nat.le_of_ble_eq_true rfl, Nat.le_of_ble_eq_true rfl⟩)
      dsimp only [Pt.U, Pt.locs, Pt.cells, Pt.slots] at X333 l333 y333 z333 st333 hQ333
      subst l333 y333 z333
      rw [if_pos (hA i (by omega))] at hQ333
      obtain ⟨rfl, N333q, hh333⟩ := hQ333
      refine own_back st333 ?_
      have N333 := Fr.app N332 N333q
      show OwnGo p e below (T333.setTop (mkF m 20 #[.val (.ref a1), .val (.int (Int32.ofNat i)), .val (.int (Int32.ofNat bs.length))] [(.int (1 : Int32))])) _
      refine own_back (fun t k => XS.ifNo X333.here hx rfl (hb hby trim_d20) rfl (Jvm.Free.XT.i0_eq_f (by decide)) k) ?_
      show OwnGo p e below (T333.setTop (mkF m 23 #[.val (.ref a1), .val (.int (Int32.ofNat i)), .val (.int (Int32.ofNat bs.length))] [])) _
      refine own_back (fun t k => XS.iinc X333.here hx rfl (hb hby trim_d23) rfl (l' := #[.val (.ref a1), .val (.int ((Int32.ofNat i) + (1 : Int32))), .val (.int (Int32.ofNat bs.length))]) rfl k) ?_
      show OwnGo p e below (T333.setTop (mkF m 26 #[.val (.ref a1), .val (.int ((Int32.ofNat i) + (1 : Int32))), .val (.int (Int32.ofNat bs.length))] [])) _
      refine own_back (fun t k => XS.goto X333.here hx rfl (pc0 := 26) (pc' := 7) rfl (hb hby trim_d26) (by decide) (by decide) k) ?_
      show OwnGo p e below (T333.setTop (mkF m 7 #[.val (.ref a1), .val (.int ((Int32.ofNat i) + (1 : Int32))), .val (.int (Int32.ofNat bs.length))] [])) _
      rw [own_suci]
      show OwnGo p e below (T333.setTop (mkF m 7 #[.val (.ref a1), .val (.int (Int32.ofNat (i + 1))), .val (.int (Int32.ofNat bs.length))] [])) _
      exact ih _ _ (i + 1) ⟨_, _, _, X333, hh333, hSj331, hkj331, hZj331, hownj331, CRj331, Oj331, KPj331, Zj331, N333⟩ hs331_0 (by omega)
  exact lp7_327 su _ _ 0 ⟨_, _, _, X307, hh307, hS0, hk0, hZ, hown, CR0, OL, KP0, Z0, N307⟩ B1 (Nat.zero_add _)
theorem own_r255 (x : Int32) : own_r ((x &&& (255 : Int32)).toUInt32.toUInt16.toUInt32.toInt32) := by
  have h := own_c255 x
  have e : nar .char ((x &&& (255 : Int32)).toUInt32.toUInt16.toUInt32.toInt32) = (x &&& (255 : Int32)).toUInt32.toUInt16.toUInt32.toInt32 := by
    show ((x &&& (255 : Int32)).toUInt32.toUInt16.toUInt32.toInt32).toUInt32.toUInt16.toUInt32.toInt32 = _
    rw [i2c_mask, i2c_mask]
  rw [e] at h
  exact h
theorem cx_d0 : decode method_4_code 0 = .ok (.iload_n 0, 1) := by decide +kernel
theorem cx_d1 : decode method_4_code 1 = .ok (.iconst 3, 1) := by decide +kernel
theorem cx_d2 : decode method_4_code 2 = .ok (.iand, 1) := by decide +kernel
theorem cx_d3 : decode method_4_code 3 = .ok (.istore_n 1, 1) := by decide +kernel
theorem cx_d4 : decode method_4_code 4 = .ok (.iload_n 1, 1) := by decide +kernel
theorem cx_d5 : decode method_4_code 5 = .ok (.ifCond .ne 6, 3) := by decide +kernel
theorem cx_d8 : decode method_4_code 8 = .ok (.bipush 32, 2) := by decide +kernel
theorem cx_d10 : decode method_4_code 10 = .ok (.ireturn, 1) := by decide +kernel
theorem cx_d11 : decode method_4_code 11 = .ok (.iload_n 1, 1) := by decide +kernel
theorem cx_d12 : decode method_4_code 12 = .ok (.iconst 1, 1) := by decide +kernel
theorem cx_d13 : decode method_4_code 13 = .ok (.if_icmp .ne 6, 3) := by decide +kernel
theorem cx_d16 : decode method_4_code 16 = .ok (.bipush 9, 2) := by decide +kernel
theorem cx_d18 : decode method_4_code 18 = .ok (.ireturn, 1) := by decide +kernel
theorem cx_d19 : decode method_4_code 19 = .ok (.iload_n 0, 1) := by decide +kernel
theorem cx_d20 : decode method_4_code 20 = .ok (.iconst 2, 1) := by decide +kernel
theorem cx_d21 : decode method_4_code 21 = .ok (.iushr, 1) := by decide +kernel
theorem cx_d22 : decode method_4_code 22 = .ok (.sipush 255, 3) := by decide +kernel
theorem cx_d25 : decode method_4_code 25 = .ok (.iand, 1) := by decide +kernel
theorem cx_d26 : decode method_4_code 26 = .ok (.i2c, 1) := by decide +kernel
theorem cx_d27 : decode method_4_code 27 = .ok (.ireturn, 1) := by decide +kernel
theorem cx_pn : plainName "com/example/kerbline/kerbline/InputFileTrimBlanksPinLaw" = true := by first | (simp [plainName, overriddenIn]; done) | decide +kernel
theorem cx_ef (m : MethodId) (x0 : Int32) : entryFrame m #[(.int x0)] 2 = mkF m 0 #[.val (.int x0), .unset] [] := by first | (simp [entryFrame, mkF, argsToLocals, Value.category]; done) | rfl
set_option maxRecDepth 65536 in
set_option maxHeartbeats 40000000 in
theorem rm_cx (l : Launch) (Z : State) (a0 : Array Value) (hw : ∀ d ∈ tables_1, d.before a0 Z = true) (ws : List Jvm.Cond) (x1 : Int32) (h0 : Heap) (n0 : Nat) (Z0 : n0 ≤ h0.size)  :
    MetFree l (⟨"com/example/kerbline/kerbline/InputFileTrimBlanksPinLaw", "ch", "(I)C"⟩ : MethodName) (head1 (Jvm.Cond.code (⟨"com/example/kerbline/kerbline/InputFileTrimBlanksPinLaw", "ch", "(I)C"⟩ : MethodName) method_4_code 2 (some .char) :: ws) ({ frames := 0, cells := 0, slots := 0, locals := 0 } : Room)) (fun a U => a = #[(.int x1)] ∧ Z.Warmed39 U.vm ∧ U.heap = h0) (fun _ _ _ _ _ => True) (fun _ U o U' => OwnEnd U (fun v h L => ∃ y, v = some (.int y) ∧ own_r y ∧ Fr n0 L ∧ h = h0) ({ frames := 0, cells := 0, slots := 0, locals := 0 } : Room).cells ({ frames := 0, cells := 0, slots := 0, locals := 0 } : Room).slots o U') := by
  refine MetFree.of_bodySF (plainFor_of_name cx_pn) hisR ?_
  intro p e s m args below meth c s₁ Bd hml0 hP hK
  obtain ⟨rfl, hZ, hh⟩ := hP
  have hx := Bd.exec
  have hby := Bd.bytes
  have hml : c.maxLocals = 2 := hml0
  have hown : s.vm.findClass "com/example/kerbline/kerbline/InputFileTrimBlanksPinLaw" = some m.cls := findClass_of_methodNamed Bd.named
  have hnm := (name_of_methodNamed Bd.named Bd.method).1
  have X0 : Stand p l e ({ frames := 0, cells := 0, slots := 0, locals := 0 } : Room) s m #[(.int x1)] below meth c s₁ [] 0 0 := Stand.of_body Bd
  have e0 : s₁.heap = h0 := by rw [← hh, Bd.state]; rfl
  have N0 := Fr.nil n0
  have KP0 := Keep.refl h0 []
  refine own_go (Q := (OwnEnd s (fun v h L => ∃ y, v = some (.int y) ∧ own_r y ∧ Fr n0 L ∧ h = h0) ({ frames := 0, cells := 0, slots := 0, locals := 0 } : Room).cells ({ frames := 0, cells := 0, slots := 0, locals := 0 } : Room).slots)) ?_
  refine own_back (fun t k => castTop (cx_ef m x1) k) ?_
  show OwnGo p e below (s₁.setTop (mkF m 0 #[.val (.int x1), .unset] [])) _
  refine own_back (fun t k => XS.iloadN X0.here hx rfl (hb hby cx_d0) rfl k) ?_
  show OwnGo p e below (s₁.setTop (mkF m 1 #[.val (.int x1), .unset] [(.int x1)])) _
  refine own_back (fun t k => XS.iconst X0.here hx rfl (hb hby cx_d1) k) ?_
  show OwnGo p e below (s₁.setTop (mkF m 2 #[.val (.int x1), .unset] [(.int (3 : Int32)), (.int x1)])) _
  refine own_back (fun t k => XS.iand X0.here hx rfl (hb hby cx_d2) rfl k) ?_
  show OwnGo p e below (s₁.setTop (mkF m 3 #[.val (.int x1), .unset] [(.int (x1 &&& (3 : Int32)))])) _
  refine own_back (fun t k => XS.istoreN X0.here hx rfl (hb hby cx_d3) rfl (l' := #[.val (.int x1), .val (.int (x1 &&& (3 : Int32)))]) rfl k) ?_
  show OwnGo p e below (s₁.setTop (mkF m 4 #[.val (.int x1), .val (.int (x1 &&& (3 : Int32)))] [])) _
  refine own_back (fun t k => XS.iloadN X0.here hx rfl (hb hby cx_d4) rfl k) ?_
  show OwnGo p e below (s₁.setTop (mkF m 5 #[.val (.int x1), .val (.int (x1 &&& (3 : Int32)))] [(.int (x1 &&& (3 : Int32)))])) _
  by_cases hc5_334 : (x1 &&& (3 : Int32)) = (0 : Int32)
  · refine own_back (fun t k => XS.ifNo X0.here hx rfl (hb hby cx_d5) rfl (Jvm.Free.XT.i0_ne_f hc5_334) k) ?_
    show OwnGo p e below (s₁.setTop (mkF m 8 #[.val (.int x1), .val (.int (x1 &&& (3 : Int32)))] [])) _
    refine own_back (fun t k => XS.bipush X0.here hx rfl (hb hby cx_d8) k) ?_
    show OwnGo p e below (s₁.setTop (mkF m 10 #[.val (.int x1), .val (.int (x1 &&& (3 : Int32)))] [(.int (32 : Int32))])) _
    refine own_retN X0 hx Bd.notSynchronized (t := .char) (z := (32 : Int32)) Bd.returns (by simp) rfl (hb hby cx_d10) e0 (Nat.le_of_ble_eq_true rfl) (Nat.le_of_ble_eq_true rfl) ?_
    exact ⟨_, rfl, (by decide), N0, rfl⟩
  · refine own_back (fun t k => XS.ifYes X0.here hx rfl (pc0 := 5) (pc' := 11) rfl (hb hby cx_d5) rfl (Jvm.Free.XT.i0_ne_t hc5_334) (by decide) (by decide) k) ?_
    show OwnGo p e below (s₁.setTop (mkF m 11 #[.val (.int x1), .val (.int (x1 &&& (3 : Int32)))] [])) _
    refine own_back (fun t k => XS.iloadN X0.here hx rfl (hb hby cx_d11) rfl k) ?_
    show OwnGo p e below (s₁.setTop (mkF m 12 #[.val (.int x1), .val (.int (x1 &&& (3 : Int32)))] [(.int (x1 &&& (3 : Int32)))])) _
    refine own_back (fun t k => XS.iconst X0.here hx rfl (hb hby cx_d12) k) ?_
    show OwnGo p e below (s₁.setTop (mkF m 13 #[.val (.int x1), .val (.int (x1 &&& (3 : Int32)))] [(.int (1 : Int32)), (.int (x1 &&& (3 : Int32)))])) _
    by_cases hc13_335 : (x1 &&& (3 : Int32)) = (1 : Int32)
    · refine own_back (fun t k => XS.icmpNo X0.here hx rfl (hb hby cx_d13) rfl (Jvm.Free.XT.ii_ne_f hc13_335) k) ?_
      show OwnGo p e below (s₁.setTop (mkF m 16 #[.val (.int x1), .val (.int (x1 &&& (3 : Int32)))] [])) _
      refine own_back (fun t k => XS.bipush X0.here hx rfl (hb hby cx_d16) k) ?_
      show OwnGo p e below (s₁.setTop (mkF m 18 #[.val (.int x1), .val (.int (x1 &&& (3 : Int32)))] [(.int (9 : Int32))])) _
      refine own_retN X0 hx Bd.notSynchronized (t := .char) (z := (9 : Int32)) Bd.returns (by simp) rfl (hb hby cx_d18) e0 (Nat.le_of_ble_eq_true rfl) (Nat.le_of_ble_eq_true rfl) ?_
      exact ⟨_, rfl, (by decide), N0, rfl⟩
    · refine own_back (fun t k => XS.icmpYes X0.here hx rfl (pc0 := 13) (pc' := 19) rfl (hb hby cx_d13) rfl (Jvm.Free.XT.ii_ne_t hc13_335) (by decide) (by decide) k) ?_
      show OwnGo p e below (s₁.setTop (mkF m 19 #[.val (.int x1), .val (.int (x1 &&& (3 : Int32)))] [])) _
      refine own_back (fun t k => XS.iloadN X0.here hx rfl (hb hby cx_d19) rfl k) ?_
      show OwnGo p e below (s₁.setTop (mkF m 20 #[.val (.int x1), .val (.int (x1 &&& (3 : Int32)))] [(.int x1)])) _
      refine own_back (fun t k => XS.iconst X0.here hx rfl (hb hby cx_d20) k) ?_
      show OwnGo p e below (s₁.setTop (mkF m 21 #[.val (.int x1), .val (.int (x1 &&& (3 : Int32)))] [(.int (2 : Int32)), (.int x1)])) _
      refine own_back (fun t k => XS.iushr X0.here hx rfl (hb hby cx_d21) rfl k) ?_
      show OwnGo p e below (s₁.setTop (mkF m 22 #[.val (.int x1), .val (.int (x1 &&& (3 : Int32)))] [(.int ((x1.toUInt32 >>> ((2 : Int32) &&& 31).toUInt32).toInt32))])) _
      refine own_back (fun t k => XS.sipush X0.here hx rfl (hb hby cx_d22) k) ?_
      show OwnGo p e below (s₁.setTop (mkF m 25 #[.val (.int x1), .val (.int (x1 &&& (3 : Int32)))] [(.int (255 : Int32)), (.int ((x1.toUInt32 >>> ((2 : Int32) &&& 31).toUInt32).toInt32))])) _
      refine own_back (fun t k => XS.iand X0.here hx rfl (hb hby cx_d25) rfl k) ?_
      show OwnGo p e below (s₁.setTop (mkF m 26 #[.val (.int x1), .val (.int (x1 &&& (3 : Int32)))] [(.int (((x1.toUInt32 >>> ((2 : Int32) &&& 31).toUInt32).toInt32) &&& (255 : Int32)))])) _
      refine own_back (fun t k => XS.i2c X0.here hx rfl (hb hby cx_d26) rfl k) ?_
      show OwnGo p e below (s₁.setTop (mkF m 27 #[.val (.int x1), .val (.int (x1 &&& (3 : Int32)))] [(.int (((x1.toUInt32 >>> ((2 : Int32) &&& 31).toUInt32).toInt32) &&& (255 : Int32)).toUInt32.toUInt16.toUInt32.toInt32)])) _
      refine own_retN X0 hx Bd.notSynchronized (t := .char) (z := (((x1.toUInt32 >>> ((2 : Int32) &&& 31).toUInt32).toInt32) &&& (255 : Int32)).toUInt32.toUInt16.toUInt32.toInt32) Bd.returns (by simp) (own_narch _) (hb hby cx_d27) e0 (Nat.le_of_ble_eq_true rfl) (Nat.le_of_ble_eq_true rfl) ?_
      exact ⟨_, rfl, (own_r255 _), N0, rfl⟩
theorem own_is4 {n : Nat} (h : n ≤ 4) (h0 : ¬ n = 0) (h1 : ¬ n = 1) (h2 : ¬ n = 2) (h3 : ¬ n = 3) : n = 4 := by omega
theorem make_d0 : decode method_5_code 0 = .ok (.iload_n 0, 1) := by decide +kernel
theorem make_d1 : decode method_5_code 1 = .ok (.ifCond .ne 14, 3) := by decide +kernel
theorem make_d4 : decode method_5_code 4 = .ok (.new 29, 3) := by decide +kernel
theorem make_d7 : decode method_5_code 7 = .ok (.dup, 1) := by decide +kernel
theorem make_d8 : decode method_5_code 8 = .ok (.iconst 0, 1) := by decide +kernel
theorem make_d9 : decode method_5_code 9 = .ok (.newarray .char, 2) := by decide +kernel
theorem make_d11 : decode method_5_code 11 = .ok (.invokespecial 37, 3) := by decide +kernel
theorem make_d14 : decode method_5_code 14 = .ok (.areturn, 1) := by decide +kernel
theorem make_d15 : decode method_5_code 15 = .ok (.iload_n 0, 1) := by decide +kernel
theorem make_d16 : decode method_5_code 16 = .ok (.iconst 1, 1) := by decide +kernel
theorem make_d17 : decode method_5_code 17 = .ok (.if_icmp .ne 18, 3) := by decide +kernel
theorem make_d20 : decode method_5_code 20 = .ok (.new 29, 3) := by decide +kernel
theorem make_d23 : decode method_5_code 23 = .ok (.dup, 1) := by decide +kernel
theorem make_d24 : decode method_5_code 24 = .ok (.iconst 1, 1) := by decide +kernel
theorem make_d25 : decode method_5_code 25 = .ok (.newarray .char, 2) := by decide +kernel
theorem make_d27 : decode method_5_code 27 = .ok (.dup, 1) := by decide +kernel
theorem make_d28 : decode method_5_code 28 = .ok (.iconst 0, 1) := by decide +kernel
theorem make_d29 : decode method_5_code 29 = .ok (.iload_n 1, 1) := by decide +kernel
theorem make_d30 : decode method_5_code 30 = .ok (.castore, 1) := by decide +kernel
theorem make_d31 : decode method_5_code 31 = .ok (.invokespecial 37, 3) := by decide +kernel
theorem make_d34 : decode method_5_code 34 = .ok (.areturn, 1) := by decide +kernel
theorem make_d35 : decode method_5_code 35 = .ok (.iload_n 0, 1) := by decide +kernel
theorem make_d36 : decode method_5_code 36 = .ok (.iconst 2, 1) := by decide +kernel
theorem make_d37 : decode method_5_code 37 = .ok (.if_icmp .ne 22, 3) := by decide +kernel
theorem make_d40 : decode method_5_code 40 = .ok (.new 29, 3) := by decide +kernel
theorem make_d43 : decode method_5_code 43 = .ok (.dup, 1) := by decide +kernel
theorem make_d44 : decode method_5_code 44 = .ok (.iconst 2, 1) := by decide +kernel
theorem make_d45 : decode method_5_code 45 = .ok (.newarray .char, 2) := by decide +kernel
theorem make_d47 : decode method_5_code 47 = .ok (.dup, 1) := by decide +kernel
theorem make_d48 : decode method_5_code 48 = .ok (.iconst 0, 1) := by decide +kernel
theorem make_d49 : decode method_5_code 49 = .ok (.iload_n 1, 1) := by decide +kernel
theorem make_d50 : decode method_5_code 50 = .ok (.castore, 1) := by decide +kernel
theorem make_d51 : decode method_5_code 51 = .ok (.dup, 1) := by decide +kernel
theorem make_d52 : decode method_5_code 52 = .ok (.iconst 1, 1) := by decide +kernel
theorem make_d53 : decode method_5_code 53 = .ok (.iload_n 2, 1) := by decide +kernel
theorem make_d54 : decode method_5_code 54 = .ok (.castore, 1) := by decide +kernel
theorem make_d55 : decode method_5_code 55 = .ok (.invokespecial 37, 3) := by decide +kernel
theorem make_d58 : decode method_5_code 58 = .ok (.areturn, 1) := by decide +kernel
theorem make_d59 : decode method_5_code 59 = .ok (.iload_n 0, 1) := by decide +kernel
theorem make_d60 : decode method_5_code 60 = .ok (.iconst 3, 1) := by decide +kernel
theorem make_d61 : decode method_5_code 61 = .ok (.if_icmp .ne 26, 3) := by decide +kernel
theorem make_d64 : decode method_5_code 64 = .ok (.new 29, 3) := by decide +kernel
theorem make_d67 : decode method_5_code 67 = .ok (.dup, 1) := by decide +kernel
theorem make_d68 : decode method_5_code 68 = .ok (.iconst 3, 1) := by decide +kernel
theorem make_d69 : decode method_5_code 69 = .ok (.newarray .char, 2) := by decide +kernel
theorem make_d71 : decode method_5_code 71 = .ok (.dup, 1) := by decide +kernel
theorem make_d72 : decode method_5_code 72 = .ok (.iconst 0, 1) := by decide +kernel
theorem make_d73 : decode method_5_code 73 = .ok (.iload_n 1, 1) := by decide +kernel
theorem make_d74 : decode method_5_code 74 = .ok (.castore, 1) := by decide +kernel
theorem make_d75 : decode method_5_code 75 = .ok (.dup, 1) := by decide +kernel
theorem make_d76 : decode method_5_code 76 = .ok (.iconst 1, 1) := by decide +kernel
theorem make_d77 : decode method_5_code 77 = .ok (.iload_n 2, 1) := by decide +kernel
theorem make_d78 : decode method_5_code 78 = .ok (.castore, 1) := by decide +kernel
theorem make_d79 : decode method_5_code 79 = .ok (.dup, 1) := by decide +kernel
theorem make_d80 : decode method_5_code 80 = .ok (.iconst 2, 1) := by decide +kernel
theorem make_d81 : decode method_5_code 81 = .ok (.iload_n 3, 1) := by decide +kernel
theorem make_d82 : decode method_5_code 82 = .ok (.castore, 1) := by decide +kernel
theorem make_d83 : decode method_5_code 83 = .ok (.invokespecial 37, 3) := by decide +kernel
theorem make_d86 : decode method_5_code 86 = .ok (.areturn, 1) := by decide +kernel
theorem make_d87 : decode method_5_code 87 = .ok (.new 29, 3) := by decide +kernel
theorem make_d90 : decode method_5_code 90 = .ok (.dup, 1) := by decide +kernel
theorem make_d91 : decode method_5_code 91 = .ok (.iconst 4, 1) := by decide +kernel
theorem make_d92 : decode method_5_code 92 = .ok (.newarray .char, 2) := by decide +kernel
theorem make_d94 : decode method_5_code 94 = .ok (.dup, 1) := by decide +kernel
theorem make_d95 : decode method_5_code 95 = .ok (.iconst 0, 1) := by decide +kernel
theorem make_d96 : decode method_5_code 96 = .ok (.iload_n 1, 1) := by decide +kernel
theorem make_d97 : decode method_5_code 97 = .ok (.castore, 1) := by decide +kernel
theorem make_d98 : decode method_5_code 98 = .ok (.dup, 1) := by decide +kernel
theorem make_d99 : decode method_5_code 99 = .ok (.iconst 1, 1) := by decide +kernel
theorem make_d100 : decode method_5_code 100 = .ok (.iload_n 2, 1) := by decide +kernel
theorem make_d101 : decode method_5_code 101 = .ok (.castore, 1) := by decide +kernel
theorem make_d102 : decode method_5_code 102 = .ok (.dup, 1) := by decide +kernel
theorem make_d103 : decode method_5_code 103 = .ok (.iconst 2, 1) := by decide +kernel
theorem make_d104 : decode method_5_code 104 = .ok (.iload_n 3, 1) := by decide +kernel
theorem make_d105 : decode method_5_code 105 = .ok (.castore, 1) := by decide +kernel
theorem make_d106 : decode method_5_code 106 = .ok (.dup, 1) := by decide +kernel
theorem make_d107 : decode method_5_code 107 = .ok (.iconst 3, 1) := by decide +kernel
theorem make_d108 : decode method_5_code 108 = .ok (.iload 4, 2) := by decide +kernel
theorem make_d110 : decode method_5_code 110 = .ok (.castore, 1) := by decide +kernel
theorem make_d111 : decode method_5_code 111 = .ok (.invokespecial 37, 3) := by decide +kernel
theorem make_d114 : decode method_5_code 114 = .ok (.areturn, 1) := by decide +kernel
theorem make_pn : plainName "com/example/kerbline/kerbline/InputFileTrimBlanksPinLaw" = true := by first | (simp [plainName, overriddenIn]; done) | decide +kernel
theorem make_pd0 : parseMethodDescriptor "([C)V" = some ⟨[(.array .char)], none⟩ := by decide +kernel
theorem make_ef (m : MethodId) (x0 : Int32) (x1 : Int32) (x2 : Int32) (x3 : Int32) (x4 : Int32) : entryFrame m #[(.int x0), (.int x1), (.int x2), (.int x3), (.int x4)] 5 = mkF m 0 #[.val (.int x0), .val (.int x1), .val (.int x2), .val (.int x3), .val (.int x4)] [] := by first | (simp [entryFrame, mkF, argsToLocals, Value.category]; done) | rfl
set_option maxRecDepth 65536 in
set_option maxHeartbeats 40000000 in
theorem rm_make (l : Launch) (Z : State) (a0 : Array Value) (hw : ∀ d ∈ tables_1, d.before a0 Z = true) (ws : List Jvm.Cond) (nn : Nat) (c0 : Int32) (c1 : Int32) (c2 : Int32) (c3 : Int32) (cz : Int32) (h0 : Heap) (n0 : Nat) (Z0 : n0 ≤ h0.size) (OL : Old Z n0 h0) (hn : nn ≤ 4) (r0 : own_r c0) (r1 : own_r c1) (r2 : own_r c2) (r3 : own_r c3) (SC : Sta Z Z.heap "java/lang/String" "COMPACT_STRINGS" "Z" (.int cz)) (hcz : ¬ cz = 0) :
    MetFree l (⟨"com/example/kerbline/kerbline/InputFileTrimBlanksPinLaw", "make", "(ICCCC)Ljava/lang/String;"⟩ : MethodName) (head1 (Jvm.Cond.code (⟨"com/example/kerbline/kerbline/InputFileTrimBlanksPinLaw", "make", "(ICCCC)Ljava/lang/String;"⟩ : MethodName) method_5_code 5 (some (.object "java/lang/String")) :: ws) ({ frames := 4, cells := 6, slots := 12, locals := 66 } : Room)) (fun a U => a = #[(.int (Int32.ofNat nn)), (.int c0), (.int c1), (.int c2), (.int c3)] ∧ Z.Warmed39 U.vm ∧ U.heap = h0 ∧ CHv Z own_EL U.vm h0 ∧ ∀ x ∈ ([] : List Addr), Safe Z own_EL U.vm h0 x) (fun _ _ _ _ _ => True) (fun _ U o U' => OwnEndW Z own_EL U (fun v h L => ∃ a, v = some (.ref a) ∧ Fr n0 L ∧ Ext h0 h ∧ OwnStr Z h a (own_L nn c0 c1 c2 c3)) ({ frames := 4, cells := 6, slots := 12, locals := 66 } : Room).cells ({ frames := 4, cells := 6, slots := 12, locals := 66 } : Room).slots o U') := by
  refine MetFree.of_bodySF (plainFor_of_name make_pn) hisR ?_
  intro p e s m args below meth c s₁ Bd hml0 hP hK
  obtain ⟨rfl, hZ, hh, hCH, hSL⟩ := hP
  have hx := Bd.exec
  have hby := Bd.bytes
  have hml : c.maxLocals = 5 := hml0
  have hown : s.vm.findClass "com/example/kerbline/kerbline/InputFileTrimBlanksPinLaw" = some m.cls := findClass_of_methodNamed Bd.named
  have hnm := (name_of_methodNamed Bd.named Bd.method).1
  have X0 : Stand p l e ({ frames := 4, cells := 6, slots := 12, locals := 66 } : Room) (s.setVm s.vm) m #[(.int (Int32.ofNat nn)), (.int c0), (.int c1), (.int c2), (.int c3)] below meth c s₁ [] 0 0 := Stand.of_body Bd
  have e0 : s₁.heap = h0 := by rw [← hh, Bd.state]; rfl
  have N0 := Fr.nil n0
  have KP0 := Keep.refl h0 []
  have hown : (s.setVm s.vm).vm.findClass "com/example/kerbline/kerbline/InputFileTrimBlanksPinLaw" = some m.cls := hown
  have hZ : Z.Warmed39 (s.setVm s.vm).vm := hZ
  have hS0 : s.Since s.vm 0 := (State.WarmedH.refl s).since 0
  have hk0 : 0 ≤ h0.size := Nat.zero_le _
  have CR0 : CHr Z own_EL s.vm h0 s.vm h0 := CHr.refl hCH
  have hEL := own_EW hw
  refine own_go (Q := (OwnEndW Z own_EL s (fun v h L => ∃ a, v = some (.ref a) ∧ Fr n0 L ∧ Ext h0 h ∧ OwnStr Z h a (own_L nn c0 c1 c2 c3)) ({ frames := 4, cells := 6, slots := 12, locals := 66 } : Room).cells ({ frames := 4, cells := 6, slots := 12, locals := 66 } : Room).slots)) ?_
  refine own_back (fun t k => castTop (make_ef m (Int32.ofNat nn) c0 c1 c2 c3) k) ?_
  show OwnGo p e below (s₁.setTop (mkF m 0 #[.val (.int (Int32.ofNat nn)), .val (.int c0), .val (.int c1), .val (.int c2), .val (.int c3)] [])) _
  refine own_back (fun t k => XS.iloadN X0.here hx rfl (hb hby make_d0) rfl k) ?_
  show OwnGo p e below (s₁.setTop (mkF m 1 #[.val (.int (Int32.ofNat nn)), .val (.int c0), .val (.int c1), .val (.int c2), .val (.int c3)] [(.int (Int32.ofNat nn))])) _
  by_cases hc1_336 : (Int32.ofNat nn) = (0 : Int32)
  · refine own_back (fun t k => XS.ifNo X0.here hx rfl (hb hby make_d1) rfl (Jvm.Free.XT.i0_ne_f hc1_336) k) ?_
    show OwnGo p e below (s₁.setTop (mkF m 4 #[.val (.int (Int32.ofNat nn)), .val (.int c0), .val (.int c1), .val (.int c2), .val (.int c3)] [])) _
    obtain ⟨T337, h337, X337, e337, E337, A337, D337, -, st337⟩ := newO X0 hx hZ hown (hw _ (List.mem_of_getElem? (i := 9) rfl)) (hw _ (List.mem_of_getElem? (i := 10) rfl)) (hw _ (List.mem_of_getElem? (i := 11) rfl)) e0 (g := (mkF m 4 #[.val (.int (Int32.ofNat nn)), .val (.int c0), .val (.int c1), .val (.int c2), .val (.int c3)] [])) rfl (hb hby make_d4) (Nat.le_of_ble_eq_true rfl) (Nat.le_of_ble_eq_true rfl)
    obtain ⟨b337, g337⟩ : ∃ z, z = h0.size := ⟨_, rfl⟩
    have ge338 : n0 ≤ b337 := Nat.le_trans Z0 (Nat.le_of_eq g337.symm)
    have sz339 : h0.size ≤ b337 := Nat.le_trans KP0.1 (Nat.le_of_eq g337.symm)
    rw [← g337] at A337 D337 st337
    have O340 := OL.ext E337
    have KP341 := KP0.ext E337
    have Zs342 := Nat.le_trans Z0 E337.1
    have CR343 := CR0.trans (CHr.ext E337 CR0.1)
    have hk344 := Nat.le_trans hk0 E337.1
    have F345 : Fld Z h337 b337 "java/lang/String" "value" "[B" .null := D337 (Or.inr (hw _ (List.mem_of_getElem? (i := 24) rfl))) (ty := (.array .byte)) (by decide)
    have F346 : Fld Z h337 b337 "java/lang/String" "coder" "B" (.int (0 : Int32)) := D337 (Or.inr (hw _ (List.mem_of_getElem? (i := 25) rfl))) (ty := .byte) (by decide)
    have sf347 := Safe.ext E337 CR0.1 (Safe.new (Nat.le_of_eq g337.symm))
    refine own_back st337 ?_
    show OwnGo p e below (T337.setTop (mkF m 7 #[.val (.int (Int32.ofNat nn)), .val (.int c0), .val (.int c1), .val (.int c2), .val (.int c3)] [(.ref b337)])) _
    refine own_back (fun t k => XS.dup X337.here hx rfl (hb hby make_d7) rfl rfl k) ?_
    show OwnGo p e below (T337.setTop (mkF m 8 #[.val (.int (Int32.ofNat nn)), .val (.int c0), .val (.int c1), .val (.int c2), .val (.int c3)] [(.ref b337), (.ref b337)])) _
    refine own_back (fun t k => XS.iconst X337.here hx rfl (hb hby make_d8) k) ?_
    show OwnGo p e below (T337.setTop (mkF m 9 #[.val (.int (Int32.ofNat nn)), .val (.int c0), .val (.int c1), .val (.int c2), .val (.int c3)] [(.int (0 : Int32)), (.ref b337), (.ref b337)])) _
    obtain ⟨T348, h348, k348, X348, e348, E348, A348, st348⟩ := newP X337 hx hZ (hw _ (List.mem_of_getElem? (i := 5) rfl)) e337 (g := (mkF m 9 #[.val (.int (Int32.ofNat nn)), .val (.int c0), .val (.int c1), .val (.int c2), .val (.int c3)] [(.int (0 : Int32)), (.ref b337), (.ref b337)])) rfl (hb hby make_d9) rfl (by decide) (cap := 0) (by decide) (by decide) (Nat.le_of_ble_eq_true rfl) (Nat.le_of_ble_eq_true rfl)
    obtain ⟨b348, g348⟩ : ∃ z, z = h337.size := ⟨_, rfl⟩
    have ge349 : n0 ≤ b348 := Nat.le_trans Zs342 (Nat.le_of_eq g348.symm)
    have sz350 : h0.size ≤ b348 := Nat.le_trans KP341.1 (Nat.le_of_eq g348.symm)
    rw [← g348] at A348 st348
    have O351 := O340.ext E348
    have KP352 := KP341.ext E348
    have Zs353 := Nat.le_trans Zs342 E348.1
    have CR354 := CR343.trans (CHr.ext E348 CR343.1)
    have hk355 := Nat.le_trans hk344 E348.1
    have f356 := A337.ext E348
    have f357 := F345.ext E348
    have f358 := F346.ext E348
    have f359 := (Safe.ext E348 CR343.1 sf347)
    have V360 : Arv Z h348 b348 k348 .char (0 : Int32) [] (.int (0 : Int32)) := (Arv.new A348 (by decide)).pad (pad_rep [] (.int (0 : Int32)) 0)
    have sf361 := Safe.ext E348 CR343.1 (Safe.new (Nat.le_of_eq g348.symm))
    refine own_back st348 ?_
    show OwnGo p e below (T348.setTop (mkF m 11 #[.val (.int (Int32.ofNat nn)), .val (.int c0), .val (.int c1), .val (.int c2), .val (.int c3)] [(.ref b348), (.ref b337), (.ref b337)])) _
    obtain ⟨_, _, ⟨T362, L362, k362, n362⟩, -, X362, hSn362, hgr362, ⟨Lc362, hQ362, l362, y362, z362, CRn362⟩, st362⟩ := X348.specialBackS hx (y := (⟨"java/lang/String", "<init>", "([C)V"⟩ : MethodName)) rfl hown (mvT hZ (hw _ (List.mem_of_getElem? (i := 12) rfl))) (mvT hZ (hw _ (List.mem_of_getElem? (i := 13) rfl))) (mvT hZ (hw _ (List.mem_of_getElem? (i := 14) rfl))) (by decide) (own_backH (W := 1) (rm_si1 l Z a0 hw [] b337 b348 (.int 0) .null k348 h348 n0 Zs353 O351 f356 f358 f357 ge338 V360) hZ (hw _ (List.mem_of_getElem? (i := 14) rfl)) (hw _ (List.mem_of_getElem? (i := 11) rfl)) (by decide) (by decide) hEL CR354.1 (sfS f359 sf0) (allS f356.lt all0)) (g := (mkF m 11 #[.val (.int (Int32.ofNat nn)), .val (.int c0), .val (.int c1), .val (.int c2), .val (.int c3)] [(.ref b348), (.ref b337), (.ref b337)])) rfl (by rw [hml]; rfl) (Steps.refl _) (a := b337) (argsL := [(.ref b348)]) (rest := [(.ref b337)]) (lenOf make_pd0 rfl) rfl (by show 2 * 0 + _ ≤ _; exact Nat.le_of_eq rfl) (hb hby make_d11) (fun _ _ => ⟨rfl, e348, Nat.le_of_ble_eq_true rfl, Nat.le_of_ble_eq_true rfl⟩)
    dsimp only [Pt.U, Pt.locs, Pt.cells, Pt.slots] at X362 l362 y362 z362 st362 hQ362 hSn362 hgr362 CRn362
    subst l362 y362 z362
    obtain ⟨Xr362, hSr362, hZr362, hownr362⟩ := rebS hS0 (own_hle e348 hk355) X362 hSn362 hgr362 hZ hown
    obtain ⟨rfl, N362q, K362, B362⟩ := hQ362
    refine own_seq st362 ?_
    have N362 := Fr.app N0 N362q
    have O363 := O351.keep K362 (allS ge338 all0)
    have KP364 := KP352.trans K362 (allS (Or.inr sz339) all0)
    have Zs365 := Nat.le_trans Zs353 K362.1
    have CR366 := CR354.trans CRn362
    have f367 := f356.keep K362
    have f368 := (CRn362.safe f356.lt f359)
    have f369 := V360.keep K362 (ninS (Ne.symm (Nat.ne_of_lt (Nat.lt_of_lt_of_le A337.lt (Nat.le_of_eq g348.symm)))) nin0)
    have f370 := (CRn362.safe V360.lt sf361)
    show OwnGo p e below (T362.setTop (mkF m 14 #[.val (.int (Int32.ofNat nn)), .val (.int c0), .val (.int c1), .val (.int c2), .val (.int c3)] [(.ref b337)])) _
    refine own_retAW Xr362 hx Bd.notSynchronized Bd.returns rfl rfl hSr362 (Nat.le_refl _) hZr362 hEL (hh ▸ CR366) (hb hby make_d14) rfl (Nat.le_of_ble_eq_true rfl) (Nat.le_of_ble_eq_true rfl) ?_
    obtain rfl : nn = 0 := own_eqi (n := 0) (by omega) (by omega) hc1_336
    exact ⟨b337, rfl, N362, own_ext KP364, B362⟩
  · refine own_back (fun t k => XS.ifYes X0.here hx rfl (pc0 := 1) (pc' := 15) rfl (hb hby make_d1) rfl (Jvm.Free.XT.i0_ne_t hc1_336) (by decide) (by decide) k) ?_
    show OwnGo p e below (s₁.setTop (mkF m 15 #[.val (.int (Int32.ofNat nn)), .val (.int c0), .val (.int c1), .val (.int c2), .val (.int c3)] [])) _
    refine own_back (fun t k => XS.iloadN X0.here hx rfl (hb hby make_d15) rfl k) ?_
    show OwnGo p e below (s₁.setTop (mkF m 16 #[.val (.int (Int32.ofNat nn)), .val (.int c0), .val (.int c1), .val (.int c2), .val (.int c3)] [(.int (Int32.ofNat nn))])) _
    refine own_back (fun t k => XS.iconst X0.here hx rfl (hb hby make_d16) k) ?_
    show OwnGo p e below (s₁.setTop (mkF m 17 #[.val (.int (Int32.ofNat nn)), .val (.int c0), .val (.int c1), .val (.int c2), .val (.int c3)] [(.int (1 : Int32)), (.int (Int32.ofNat nn))])) _
    by_cases hc17_371 : (Int32.ofNat nn) = (1 : Int32)
    · refine own_back (fun t k => XS.icmpNo X0.here hx rfl (hb hby make_d17) rfl (Jvm.Free.XT.ii_ne_f hc17_371) k) ?_
      show OwnGo p e below (s₁.setTop (mkF m 20 #[.val (.int (Int32.ofNat nn)), .val (.int c0), .val (.int c1), .val (.int c2), .val (.int c3)] [])) _
      obtain ⟨T372, h372, X372, e372, E372, A372, D372, -, st372⟩ := newO X0 hx hZ hown (hw _ (List.mem_of_getElem? (i := 9) rfl)) (hw _ (List.mem_of_getElem? (i := 10) rfl)) (hw _ (List.mem_of_getElem? (i := 11) rfl)) e0 (g := (mkF m 20 #[.val (.int (Int32.ofNat nn)), .val (.int c0), .val (.int c1), .val (.int c2), .val (.int c3)] [])) rfl (hb hby make_d20) (Nat.le_of_ble_eq_true rfl) (Nat.le_of_ble_eq_true rfl)
      obtain ⟨b372, g372⟩ : ∃ z, z = h0.size := ⟨_, rfl⟩
      have ge373 : n0 ≤ b372 := Nat.le_trans Z0 (Nat.le_of_eq g372.symm)
      have sz374 : h0.size ≤ b372 := Nat.le_trans KP0.1 (Nat.le_of_eq g372.symm)
      rw [← g372] at A372 D372 st372
      have O375 := OL.ext E372
      have KP376 := KP0.ext E372
      have Zs377 := Nat.le_trans Z0 E372.1
      have CR378 := CR0.trans (CHr.ext E372 CR0.1)
      have hk379 := Nat.le_trans hk0 E372.1
      have F380 : Fld Z h372 b372 "java/lang/String" "value" "[B" .null := D372 (Or.inr (hw _ (List.mem_of_getElem? (i := 24) rfl))) (ty := (.array .byte)) (by decide)
      have F381 : Fld Z h372 b372 "java/lang/String" "coder" "B" (.int (0 : Int32)) := D372 (Or.inr (hw _ (List.mem_of_getElem? (i := 25) rfl))) (ty := .byte) (by decide)
      have sf382 := Safe.ext E372 CR0.1 (Safe.new (Nat.le_of_eq g372.symm))
      refine own_back st372 ?_
      show OwnGo p e below (T372.setTop (mkF m 23 #[.val (.int (Int32.ofNat nn)), .val (.int c0), .val (.int c1), .val (.int c2), .val (.int c3)] [(.ref b372)])) _
      refine own_back (fun t k => XS.dup X372.here hx rfl (hb hby make_d23) rfl rfl k) ?_
      show OwnGo p e below (T372.setTop (mkF m 24 #[.val (.int (Int32.ofNat nn)), .val (.int c0), .val (.int c1), .val (.int c2), .val (.int c3)] [(.ref b372), (.ref b372)])) _
      refine own_back (fun t k => XS.iconst X372.here hx rfl (hb hby make_d24) k) ?_
      show OwnGo p e below (T372.setTop (mkF m 25 #[.val (.int (Int32.ofNat nn)), .val (.int c0), .val (.int c1), .val (.int c2), .val (.int c3)] [(.int (1 : Int32)), (.ref b372), (.ref b372)])) _
      obtain ⟨T383, h383, k383, X383, e383, E383, A383, st383⟩ := newP X372 hx hZ (hw _ (List.mem_of_getElem? (i := 5) rfl)) e372 (g := (mkF m 25 #[.val (.int (Int32.ofNat nn)), .val (.int c0), .val (.int c1), .val (.int c2), .val (.int c3)] [(.int (1 : Int32)), (.ref b372), (.ref b372)])) rfl (hb hby make_d25) rfl (by decide) (cap := 1) (by decide) (by decide) (Nat.le_of_ble_eq_true rfl) (Nat.le_of_ble_eq_true rfl)
      obtain ⟨b383, g383⟩ : ∃ z, z = h372.size := ⟨_, rfl⟩
      have ge384 : n0 ≤ b383 := Nat.le_trans Zs377 (Nat.le_of_eq g383.symm)
      have sz385 : h0.size ≤ b383 := Nat.le_trans KP376.1 (Nat.le_of_eq g383.symm)
      rw [← g383] at A383 st383
      have O386 := O375.ext E383
      have KP387 := KP376.ext E383
      have Zs388 := Nat.le_trans Zs377 E383.1
      have CR389 := CR378.trans (CHr.ext E383 CR378.1)
      have hk390 := Nat.le_trans hk379 E383.1
      have f391 := A372.ext E383
      have f392 := F380.ext E383
      have f393 := F381.ext E383
      have f394 := (Safe.ext E383 CR378.1 sf382)
      have V395 : Arv Z h383 b383 k383 .char (1 : Int32) [(.int (0 : Int32))] (.int (0 : Int32)) := (Arv.new A383 (by decide)).pad (pad_rep [] (.int (0 : Int32)) 1)
      have sf396 := Safe.ext E383 CR378.1 (Safe.new (Nat.le_of_eq g383.symm))
      refine own_back st383 ?_
      show OwnGo p e below (T383.setTop (mkF m 27 #[.val (.int (Int32.ofNat nn)), .val (.int c0), .val (.int c1), .val (.int c2), .val (.int c3)] [(.ref b383), (.ref b372), (.ref b372)])) _
      refine own_back (fun t k => XS.dup X383.here hx rfl (hb hby make_d27) rfl rfl k) ?_
      show OwnGo p e below (T383.setTop (mkF m 28 #[.val (.int (Int32.ofNat nn)), .val (.int c0), .val (.int c1), .val (.int c2), .val (.int c3)] [(.ref b383), (.ref b383), (.ref b372), (.ref b372)])) _
      refine own_back (fun t k => XS.iconst X383.here hx rfl (hb hby make_d28) k) ?_
      show OwnGo p e below (T383.setTop (mkF m 29 #[.val (.int (Int32.ofNat nn)), .val (.int c0), .val (.int c1), .val (.int c2), .val (.int c3)] [(.int (0 : Int32)), (.ref b383), (.ref b383), (.ref b372), (.ref b372)])) _
      refine own_back (fun t k => XS.iloadN X383.here hx rfl (hb hby make_d29) rfl k) ?_
      show OwnGo p e below (T383.setTop (mkF m 30 #[.val (.int (Int32.ofNat nn)), .val (.int c0), .val (.int c1), .val (.int c2), .val (.int c3)] [(.int c0), (.int (0 : Int32)), (.ref b383), (.ref b383), (.ref b372), (.ref b372)])) _
      obtain ⟨c397, A397, q397, S397, M397, H397, U397⟩ := id V395
      obtain ⟨T398, h398, X398, e398, W398, st398⟩ := stC X383 hx hZ e383 A397 (j := (0 : Int32)) (inb_of S397 ⟨by decide, by decide⟩) (g := (mkF m 30 #[.val (.int (Int32.ofNat nn)), .val (.int c0), .val (.int c1), .val (.int c2), .val (.int c3)] [(.int c0), (.int (0 : Int32)), (.ref b383), (.ref b383), (.ref b372), (.ref b372)])) rfl rfl (hb hby make_d30)
      have O399 := O386.wr W398 ge384
      have KP400 := KP387.wr W398 (Or.inr sz385)
      have Zs401 := Nat.le_trans Zs388 (Keep.of_wr W398).1
      have CR402 := CR389.trans (CHr.wr W398 sf396 CR389.1)
      have hk403 := Nat.le_trans hk390 (Keep.of_wr W398).1
      have f404 := f391.wr W398
      have f405 := f392.other W398 (Or.inl (Nat.ne_of_lt (Nat.lt_of_lt_of_le A372.lt (Nat.le_of_eq g383.symm))))
      have f406 := f393.other W398 (Or.inl (Nat.ne_of_lt (Nat.lt_of_lt_of_le A372.lt (Nat.le_of_eq g383.symm))))
      have f407 := (Safe.wr W398 sf396 CR389.1 f394)
      have f408 := (Safe.wr W398 sf396 CR389.1 sf396)
      have V409 : Arv Z h398 b383 k383 .char (1 : Int32) [(.int (nar .char c0))] (.int (0 : Int32)) := Arv.set A397 q397 S397 M397 H397 U397 (fits_nar_char _) W398 0 rfl (Nat.le_of_ble_eq_true rfl)
      have N410 := Fr.snoc X398 N0 ge384
      refine own_back st398 ?_
      show OwnGo p e below (T398.setTop (mkF m 31 #[.val (.int (Int32.ofNat nn)), .val (.int c0), .val (.int c1), .val (.int c2), .val (.int c3)] [(.ref b383), (.ref b372), (.ref b372)])) _
      obtain ⟨_, _, ⟨T411, L411, k411, n411⟩, -, X411, ⟨Lc411, hQ411, l411, y411, z411⟩, st411⟩ := X398.specialBack hx (y := (⟨"java/lang/String", "<init>", "([C)V"⟩ : MethodName)) rfl hown (mvT hZ (hw _ (List.mem_of_getElem? (i := 12) rfl))) (mvT hZ (hw _ (List.mem_of_getElem? (i := 13) rfl))) (mvT hZ (hw _ (List.mem_of_getElem? (i := 14) rfl))) (by decide) (StrChars.Road.backV (W := 1) hZ (own_wV hw) (kI := 4) (hw _ (List.mem_of_getElem? (i := 10) rfl)) (cs := ([(nar .char c0)] : List Int32)) (bs := ([(nar .char c0)] : List Int32).map (fun c => c.toInt8.toInt32)) (n := 1) ge373 Zs401 f404 f405 f406 V409 (SC.ext O399.2) hcz rfl rfl (by decide) (by decide) (own_allS (own_narr r0) own_all0) rfl (by decide) (by decide)) (g := (mkF m 31 #[.val (.int (Int32.ofNat nn)), .val (.int c0), .val (.int c1), .val (.int c2), .val (.int c3)] [(.ref b383), (.ref b372), (.ref b372)])) rfl (by rw [hml]; rfl) (Steps.refl _) (a := b372) (argsL := [(.ref b383)]) (rest := [(.ref b372)]) (lenOf make_pd0 rfl) rfl (by show 2 * 0 + _ ≤ _; exact Nat.le_of_eq rfl) (hb hby make_d31) (fun _ _ => ⟨rfl, e398, Nat.le_of_ble_eq_true rfl, Nat.le_of_ble_eq_true rfl⟩)
      dsimp only [Pt.U, Pt.locs, Pt.cells, Pt.slots] at X411 l411 y411 z411 st411 hQ411
      subst l411 y411 z411
      obtain ⟨rfl, N411q, K411, EX411, C411, t411, kb411, gt411, zt411, nt411, FV411, AV411⟩ := hQ411
      refine own_seq st411 ?_
      have N411 := Fr.app N410 N411q
      have O412 := O399.keep K411 (allS ge373 all0)
      have KP413 := KP400.trans K411 (allS (Or.inr sz374) all0)
      have Zs414 := Nat.le_trans Zs401 K411.1
      have CR415 := CR402.trans (CHr.keep K411 (sfS f407 sf0) CR402.1)
      have hk416 := Nat.le_trans hk403 K411.1
      have f417 := f404.keep K411
      have f418 := (Safe.keep K411 (sfS f407 sf0) CR402.1 f407)
      have f419 := (Safe.keep K411 (sfS f407 sf0) CR402.1 f408)
      have f420 := V409.keep K411 (ninS (Ne.symm (Nat.ne_of_lt (Nat.lt_of_lt_of_le A372.lt (Nat.le_of_eq g383.symm)))) nin0)
      show OwnGo p e below (T411.setTop (mkF m 34 #[.val (.int (Int32.ofNat nn)), .val (.int c0), .val (.int c1), .val (.int c2), .val (.int c3)] [(.ref b372)])) _
      refine own_retAW X411 hx Bd.notSynchronized Bd.returns rfl rfl hS0 hk416 hZ hEL (hh ▸ CR415) (hb hby make_d34) rfl (Nat.le_of_ble_eq_true rfl) (Nat.le_of_ble_eq_true rfl) ?_
      obtain rfl : nn = 1 := own_eqi (n := 1) (by omega) (by omega) hc17_371
      exact ⟨b372, rfl, N411, own_ext KP413, (⟨t411, kb411, EX411, C411, FV411, AV411, Nat.le_of_ble_eq_true rfl⟩ : OwnStr Z T411.heap b372 [((nar .char c0)).toInt8.toInt32])⟩
    · refine own_back (fun t k => XS.icmpYes X0.here hx rfl (pc0 := 17) (pc' := 35) rfl (hb hby make_d17) rfl (Jvm.Free.XT.ii_ne_t hc17_371) (by decide) (by decide) k) ?_
      show OwnGo p e below (s₁.setTop (mkF m 35 #[.val (.int (Int32.ofNat nn)), .val (.int c0), .val (.int c1), .val (.int c2), .val (.int c3)] [])) _
      refine own_back (fun t k => XS.iloadN X0.here hx rfl (hb hby make_d35) rfl k) ?_
      show OwnGo p e below (s₁.setTop (mkF m 36 #[.val (.int (Int32.ofNat nn)), .val (.int c0), .val (.int c1), .val (.int c2), .val (.int c3)] [(.int (Int32.ofNat nn))])) _
      refine own_back (fun t k => XS.iconst X0.here hx rfl (hb hby make_d36) k) ?_
      show OwnGo p e below (s₁.setTop (mkF m 37 #[.val (.int (Int32.ofNat nn)), .val (.int c0), .val (.int c1), .val (.int c2), .val (.int c3)] [(.int (2 : Int32)), (.int (Int32.ofNat nn))])) _
      by_cases hc37_421 : (Int32.ofNat nn) = (2 : Int32)
      · refine own_back (fun t k => XS.icmpNo X0.here hx rfl (hb hby make_d37) rfl (Jvm.Free.XT.ii_ne_f hc37_421) k) ?_
        show OwnGo p e below (s₁.setTop (mkF m 40 #[.val (.int (Int32.ofNat nn)), .val (.int c0), .val (.int c1), .val (.int c2), .val (.int c3)] [])) _
        obtain ⟨T422, h422, X422, e422, E422, A422, D422, -, st422⟩ := newO X0 hx hZ hown (hw _ (List.mem_of_getElem? (i := 9) rfl)) (hw _ (List.mem_of_getElem? (i := 10) rfl)) (hw _ (List.mem_of_getElem? (i := 11) rfl)) e0 (g := (mkF m 40 #[.val (.int (Int32.ofNat nn)), .val (.int c0), .val (.int c1), .val (.int c2), .val (.int c3)] [])) rfl (hb hby make_d40) (Nat.le_of_ble_eq_true rfl) (Nat.le_of_ble_eq_true rfl)
        obtain ⟨b422, g422⟩ : ∃ z, z = h0.size := ⟨_, rfl⟩
        have ge423 : n0 ≤ b422 := Nat.le_trans Z0 (Nat.le_of_eq g422.symm)
        have sz424 : h0.size ≤ b422 := Nat.le_trans KP0.1 (Nat.le_of_eq g422.symm)
        rw [← g422] at A422 D422 st422
        have O425 := OL.ext E422
        have KP426 := KP0.ext E422
        have Zs427 := Nat.le_trans Z0 E422.1
        have CR428 := CR0.trans (CHr.ext E422 CR0.1)
        have hk429 := Nat.le_trans hk0 E422.1
        have F430 : Fld Z h422 b422 "java/lang/String" "value" "[B" .null := D422 (Or.inr (hw _ (List.mem_of_getElem? (i := 24) rfl))) (ty := (.array .byte)) (by decide)
        have F431 : Fld Z h422 b422 "java/lang/String" "coder" "B" (.int (0 : Int32)) := D422 (Or.inr (hw _ (List.mem_of_getElem? (i := 25) rfl))) (ty := .byte) (by decide)
        have sf432 := Safe.ext E422 CR0.1 (Safe.new (Nat.le_of_eq g422.symm))
        refine own_back st422 ?_
        show OwnGo p e below (T422.setTop (mkF m 43 #[.val (.int (Int32.ofNat nn)), .val (.int c0), .val (.int c1), .val (.int c2), .val (.int c3)] [(.ref b422)])) _
        refine own_back (fun t k => XS.dup X422.here hx rfl (hb hby make_d43) rfl rfl k) ?_
        show OwnGo p e below (T422.setTop (mkF m 44 #[.val (.int (Int32.ofNat nn)), .val (.int c0), .val (.int c1), .val (.int c2), .val (.int c3)] [(.ref b422), (.ref b422)])) _
        refine own_back (fun t k => XS.iconst X422.here hx rfl (hb hby make_d44) k) ?_
        show OwnGo p e below (T422.setTop (mkF m 45 #[.val (.int (Int32.ofNat nn)), .val (.int c0), .val (.int c1), .val (.int c2), .val (.int c3)] [(.int (2 : Int32)), (.ref b422), (.ref b422)])) _
        obtain ⟨T433, h433, k433, X433, e433, E433, A433, st433⟩ := newP X422 hx hZ (hw _ (List.mem_of_getElem? (i := 5) rfl)) e422 (g := (mkF m 45 #[.val (.int (Int32.ofNat nn)), .val (.int c0), .val (.int c1), .val (.int c2), .val (.int c3)] [(.int (2 : Int32)), (.ref b422), (.ref b422)])) rfl (hb hby make_d45) rfl (by decide) (cap := 2) (by decide) (by decide) (Nat.le_of_ble_eq_true rfl) (Nat.le_of_ble_eq_true rfl)
        obtain ⟨b433, g433⟩ : ∃ z, z = h422.size := ⟨_, rfl⟩
        have ge434 : n0 ≤ b433 := Nat.le_trans Zs427 (Nat.le_of_eq g433.symm)
        have sz435 : h0.size ≤ b433 := Nat.le_trans KP426.1 (Nat.le_of_eq g433.symm)
        rw [← g433] at A433 st433
        have O436 := O425.ext E433
        have KP437 := KP426.ext E433
        have Zs438 := Nat.le_trans Zs427 E433.1
        have CR439 := CR428.trans (CHr.ext E433 CR428.1)
        have hk440 := Nat.le_trans hk429 E433.1
        have f441 := A422.ext E433
        have f442 := F430.ext E433
        have f443 := F431.ext E433
        have f444 := (Safe.ext E433 CR428.1 sf432)
        have V445 : Arv Z h433 b433 k433 .char (2 : Int32) [(.int (0 : Int32)), (.int (0 : Int32))] (.int (0 : Int32)) := (Arv.new A433 (by decide)).pad (pad_rep [] (.int (0 : Int32)) 2)
        have sf446 := Safe.ext E433 CR428.1 (Safe.new (Nat.le_of_eq g433.symm))
        refine own_back st433 ?_
        show OwnGo p e below (T433.setTop (mkF m 47 #[.val (.int (Int32.ofNat nn)), .val (.int c0), .val (.int c1), .val (.int c2), .val (.int c3)] [(.ref b433), (.ref b422), (.ref b422)])) _
        refine own_back (fun t k => XS.dup X433.here hx rfl (hb hby make_d47) rfl rfl k) ?_
        show OwnGo p e below (T433.setTop (mkF m 48 #[.val (.int (Int32.ofNat nn)), .val (.int c0), .val (.int c1), .val (.int c2), .val (.int c3)] [(.ref b433), (.ref b433), (.ref b422), (.ref b422)])) _
        refine own_back (fun t k => XS.iconst X433.here hx rfl (hb hby make_d48) k) ?_
        show OwnGo p e below (T433.setTop (mkF m 49 #[.val (.int (Int32.ofNat nn)), .val (.int c0), .val (.int c1), .val (.int c2), .val (.int c3)] [(.int (0 : Int32)), (.ref b433), (.ref b433), (.ref b422), (.ref b422)])) _
        refine own_back (fun t k => XS.iloadN X433.here hx rfl (hb hby make_d49) rfl k) ?_
        show OwnGo p e below (T433.setTop (mkF m 50 #[.val (.int (Int32.ofNat nn)), .val (.int c0), .val (.int c1), .val (.int c2), .val (.int c3)] [(.int c0), (.int (0 : Int32)), (.ref b433), (.ref b433), (.ref b422), (.ref b422)])) _
        obtain ⟨c447, A447, q447, S447, M447, H447, U447⟩ := id V445
        obtain ⟨T448, h448, X448, e448, W448, st448⟩ := stC X433 hx hZ e433 A447 (j := (0 : Int32)) (inb_of S447 ⟨by decide, by decide⟩) (g := (mkF m 50 #[.val (.int (Int32.ofNat nn)), .val (.int c0), .val (.int c1), .val (.int c2), .val (.int c3)] [(.int c0), (.int (0 : Int32)), (.ref b433), (.ref b433), (.ref b422), (.ref b422)])) rfl rfl (hb hby make_d50)
        have O449 := O436.wr W448 ge434
        have KP450 := KP437.wr W448 (Or.inr sz435)
        have Zs451 := Nat.le_trans Zs438 (Keep.of_wr W448).1
        have CR452 := CR439.trans (CHr.wr W448 sf446 CR439.1)
        have hk453 := Nat.le_trans hk440 (Keep.of_wr W448).1
        have f454 := f441.wr W448
        have f455 := f442.other W448 (Or.inl (Nat.ne_of_lt (Nat.lt_of_lt_of_le A422.lt (Nat.le_of_eq g433.symm))))
        have f456 := f443.other W448 (Or.inl (Nat.ne_of_lt (Nat.lt_of_lt_of_le A422.lt (Nat.le_of_eq g433.symm))))
        have f457 := (Safe.wr W448 sf446 CR439.1 f444)
        have f458 := (Safe.wr W448 sf446 CR439.1 sf446)
        have V459 : Arv Z h448 b433 k433 .char (2 : Int32) [(.int (nar .char c0)), (.int (0 : Int32))] (.int (0 : Int32)) := Arv.set A447 q447 S447 M447 H447 U447 (fits_nar_char _) W448 0 rfl (Nat.le_of_ble_eq_true rfl)
        have N460 := Fr.snoc X448 N0 ge434
        refine own_back st448 ?_
        show OwnGo p e below (T448.setTop (mkF m 51 #[.val (.int (Int32.ofNat nn)), .val (.int c0), .val (.int c1), .val (.int c2), .val (.int c3)] [(.ref b433), (.ref b422), (.ref b422)])) _
        refine own_back (fun t k => XS.dup X448.here hx rfl (hb hby make_d51) rfl rfl k) ?_
        show OwnGo p e below (T448.setTop (mkF m 52 #[.val (.int (Int32.ofNat nn)), .val (.int c0), .val (.int c1), .val (.int c2), .val (.int c3)] [(.ref b433), (.ref b433), (.ref b422), (.ref b422)])) _
        refine own_back (fun t k => XS.iconst X448.here hx rfl (hb hby make_d52) k) ?_
        show OwnGo p e below (T448.setTop (mkF m 53 #[.val (.int (Int32.ofNat nn)), .val (.int c0), .val (.int c1), .val (.int c2), .val (.int c3)] [(.int (1 : Int32)), (.ref b433), (.ref b433), (.ref b422), (.ref b422)])) _
        refine own_back (fun t k => XS.iloadN X448.here hx rfl (hb hby make_d53) rfl k) ?_
        show OwnGo p e below (T448.setTop (mkF m 54 #[.val (.int (Int32.ofNat nn)), .val (.int c0), .val (.int c1), .val (.int c2), .val (.int c3)] [(.int c1), (.int (1 : Int32)), (.ref b433), (.ref b433), (.ref b422), (.ref b422)])) _
        obtain ⟨c461, A461, q461, S461, M461, H461, U461⟩ := id V459
        obtain ⟨T462, h462, X462, e462, W462, st462⟩ := stC X448 hx hZ e448 A461 (j := (1 : Int32)) (inb_of S461 ⟨by decide, by decide⟩) (g := (mkF m 54 #[.val (.int (Int32.ofNat nn)), .val (.int c0), .val (.int c1), .val (.int c2), .val (.int c3)] [(.int c1), (.int (1 : Int32)), (.ref b433), (.ref b433), (.ref b422), (.ref b422)])) rfl rfl (hb hby make_d54)
        have O463 := O449.wr W462 ge434
        have KP464 := KP450.wr W462 (Or.inr sz435)
        have Zs465 := Nat.le_trans Zs451 (Keep.of_wr W462).1
        have CR466 := CR452.trans (CHr.wr W462 f458 CR452.1)
        have hk467 := Nat.le_trans hk453 (Keep.of_wr W462).1
        have f468 := f454.wr W462
        have f469 := f455.other W462 (Or.inl (Nat.ne_of_lt (Nat.lt_of_lt_of_le A422.lt (Nat.le_of_eq g433.symm))))
        have f470 := f456.other W462 (Or.inl (Nat.ne_of_lt (Nat.lt_of_lt_of_le A422.lt (Nat.le_of_eq g433.symm))))
        have f471 := (Safe.wr W462 f458 CR452.1 f457)
        have f472 := (Safe.wr W462 f458 CR452.1 f458)
        have V473 : Arv Z h462 b433 k433 .char (2 : Int32) [(.int (nar .char c0)), (.int (nar .char c1))] (.int (0 : Int32)) := Arv.set A461 q461 S461 M461 H461 U461 (fits_nar_char _) W462 1 rfl (Nat.le_of_ble_eq_true rfl)
        have N474 := Fr.snoc X462 N460 ge434
        refine own_back st462 ?_
        show OwnGo p e below (T462.setTop (mkF m 55 #[.val (.int (Int32.ofNat nn)), .val (.int c0), .val (.int c1), .val (.int c2), .val (.int c3)] [(.ref b433), (.ref b422), (.ref b422)])) _
        obtain ⟨_, _, ⟨T475, L475, k475, n475⟩, -, X475, ⟨Lc475, hQ475, l475, y475, z475⟩, st475⟩ := X462.specialBack hx (y := (⟨"java/lang/String", "<init>", "([C)V"⟩ : MethodName)) rfl hown (mvT hZ (hw _ (List.mem_of_getElem? (i := 12) rfl))) (mvT hZ (hw _ (List.mem_of_getElem? (i := 13) rfl))) (mvT hZ (hw _ (List.mem_of_getElem? (i := 14) rfl))) (by decide) (StrChars.Road.backV (W := 1) hZ (own_wV hw) (kI := 4) (hw _ (List.mem_of_getElem? (i := 10) rfl)) (cs := ([(nar .char c0), (nar .char c1)] : List Int32)) (bs := ([(nar .char c0), (nar .char c1)] : List Int32).map (fun c => c.toInt8.toInt32)) (n := 2) ge423 Zs465 f468 f469 f470 V473 (SC.ext O463.2) hcz rfl rfl (by decide) (by decide) (own_allS (own_narr r0) (own_allS (own_narr r1) own_all0)) rfl (by decide) (by decide)) (g := (mkF m 55 #[.val (.int (Int32.ofNat nn)), .val (.int c0), .val (.int c1), .val (.int c2), .val (.int c3)] [(.ref b433), (.ref b422), (.ref b422)])) rfl (by rw [hml]; rfl) (Steps.refl _) (a := b422) (argsL := [(.ref b433)]) (rest := [(.ref b422)]) (lenOf make_pd0 rfl) rfl (by show 2 * 0 + _ ≤ _; exact Nat.le_of_eq rfl) (hb hby make_d55) (fun _ _ => ⟨rfl, e462, Nat.le_of_ble_eq_true rfl, Nat.le_of_ble_eq_true rfl⟩)
        dsimp only [Pt.U, Pt.locs, Pt.cells, Pt.slots] at X475 l475 y475 z475 st475 hQ475
        subst l475 y475 z475
        obtain ⟨rfl, N475q, K475, EX475, C475, t475, kb475, gt475, zt475, nt475, FV475, AV475⟩ := hQ475
        refine own_seq st475 ?_
        have N475 := Fr.app N474 N475q
        have O476 := O463.keep K475 (allS ge423 all0)
        have KP477 := KP464.trans K475 (allS (Or.inr sz424) all0)
        have Zs478 := Nat.le_trans Zs465 K475.1
        have CR479 := CR466.trans (CHr.keep K475 (sfS f471 sf0) CR466.1)
        have hk480 := Nat.le_trans hk467 K475.1
        have f481 := f468.keep K475
        have f482 := (Safe.keep K475 (sfS f471 sf0) CR466.1 f471)
        have f483 := (Safe.keep K475 (sfS f471 sf0) CR466.1 f472)
        have f484 := V473.keep K475 (ninS (Ne.symm (Nat.ne_of_lt (Nat.lt_of_lt_of_le A422.lt (Nat.le_of_eq g433.symm)))) nin0)
        show OwnGo p e below (T475.setTop (mkF m 58 #[.val (.int (Int32.ofNat nn)), .val (.int c0), .val (.int c1), .val (.int c2), .val (.int c3)] [(.ref b422)])) _
        refine own_retAW X475 hx Bd.notSynchronized Bd.returns rfl rfl hS0 hk480 hZ hEL (hh ▸ CR479) (hb hby make_d58) rfl (Nat.le_of_ble_eq_true rfl) (Nat.le_of_ble_eq_true rfl) ?_
        obtain rfl : nn = 2 := own_eqi (n := 2) (by omega) (by omega) hc37_421
        exact ⟨b422, rfl, N475, own_ext KP477, (⟨t475, kb475, EX475, C475, FV475, AV475, Nat.le_of_ble_eq_true rfl⟩ : OwnStr Z T475.heap b422 [((nar .char c0)).toInt8.toInt32, ((nar .char c1)).toInt8.toInt32])⟩
      · refine own_back (fun t k => XS.icmpYes X0.here hx rfl (pc0 := 37) (pc' := 59) rfl (hb hby make_d37) rfl (Jvm.Free.XT.ii_ne_t hc37_421) (by decide) (by decide) k) ?_
        show OwnGo p e below (s₁.setTop (mkF m 59 #[.val (.int (Int32.ofNat nn)), .val (.int c0), .val (.int c1), .val (.int c2), .val (.int c3)] [])) _
        refine own_back (fun t k => XS.iloadN X0.here hx rfl (hb hby make_d59) rfl k) ?_
        show OwnGo p e below (s₁.setTop (mkF m 60 #[.val (.int (Int32.ofNat nn)), .val (.int c0), .val (.int c1), .val (.int c2), .val (.int c3)] [(.int (Int32.ofNat nn))])) _
        refine own_back (fun t k => XS.iconst X0.here hx rfl (hb hby make_d60) k) ?_
        show OwnGo p e below (s₁.setTop (mkF m 61 #[.val (.int (Int32.ofNat nn)), .val (.int c0), .val (.int c1), .val (.int c2), .val (.int c3)] [(.int (3 : Int32)), (.int (Int32.ofNat nn))])) _
        by_cases hc61_485 : (Int32.ofNat nn) = (3 : Int32)
        · refine own_back (fun t k => XS.icmpNo X0.here hx rfl (hb hby make_d61) rfl (Jvm.Free.XT.ii_ne_f hc61_485) k) ?_
          show OwnGo p e below (s₁.setTop (mkF m 64 #[.val (.int (Int32.ofNat nn)), .val (.int c0), .val (.int c1), .val (.int c2), .val (.int c3)] [])) _
          obtain ⟨T486, h486, X486, e486, E486, A486, D486, -, st486⟩ := newO X0 hx hZ hown (hw _ (List.mem_of_getElem? (i := 9) rfl)) (hw _ (List.mem_of_getElem? (i := 10) rfl)) (hw _ (List.mem_of_getElem? (i := 11) rfl)) e0 (g := (mkF m 64 #[.val (.int (Int32.ofNat nn)), .val (.int c0), .val (.int c1), .val (.int c2), .val (.int c3)] [])) rfl (hb hby make_d64) (Nat.le_of_ble_eq_true rfl) (Nat.le_of_ble_eq_true rfl)
          obtain ⟨b486, g486⟩ : ∃ z, z = h0.size := ⟨_, rfl⟩
          have ge487 : n0 ≤ b486 := Nat.le_trans Z0 (Nat.le_of_eq g486.symm)
          have sz488 : h0.size ≤ b486 := Nat.le_trans KP0.1 (Nat.le_of_eq g486.symm)
          rw [← g486] at A486 D486 st486
          have O489 := OL.ext E486
          have KP490 := KP0.ext E486
          have Zs491 := Nat.le_trans Z0 E486.1
          have CR492 := CR0.trans (CHr.ext E486 CR0.1)
          have hk493 := Nat.le_trans hk0 E486.1
          have F494 : Fld Z h486 b486 "java/lang/String" "value" "[B" .null := D486 (Or.inr (hw _ (List.mem_of_getElem? (i := 24) rfl))) (ty := (.array .byte)) (by decide)
          have F495 : Fld Z h486 b486 "java/lang/String" "coder" "B" (.int (0 : Int32)) := D486 (Or.inr (hw _ (List.mem_of_getElem? (i := 25) rfl))) (ty := .byte) (by decide)
          have sf496 := Safe.ext E486 CR0.1 (Safe.new (Nat.le_of_eq g486.symm))
          refine own_back st486 ?_
          show OwnGo p e below (T486.setTop (mkF m 67 #[.val (.int (Int32.ofNat nn)), .val (.int c0), .val (.int c1), .val (.int c2), .val (.int c3)] [(.ref b486)])) _
          refine own_back (fun t k => XS.dup X486.here hx rfl (hb hby make_d67) rfl rfl k) ?_
          show OwnGo p e below (T486.setTop (mkF m 68 #[.val (.int (Int32.ofNat nn)), .val (.int c0), .val (.int c1), .val (.int c2), .val (.int c3)] [(.ref b486), (.ref b486)])) _
          refine own_back (fun t k => XS.iconst X486.here hx rfl (hb hby make_d68) k) ?_
          show OwnGo p e below (T486.setTop (mkF m 69 #[.val (.int (Int32.ofNat nn)), .val (.int c0), .val (.int c1), .val (.int c2), .val (.int c3)] [(.int (3 : Int32)), (.ref b486), (.ref b486)])) _
          obtain ⟨T497, h497, k497, X497, e497, E497, A497, st497⟩ := newP X486 hx hZ (hw _ (List.mem_of_getElem? (i := 5) rfl)) e486 (g := (mkF m 69 #[.val (.int (Int32.ofNat nn)), .val (.int c0), .val (.int c1), .val (.int c2), .val (.int c3)] [(.int (3 : Int32)), (.ref b486), (.ref b486)])) rfl (hb hby make_d69) rfl (by decide) (cap := 3) (by decide) (by decide) (Nat.le_of_ble_eq_true rfl) (Nat.le_of_ble_eq_true rfl)
          obtain ⟨b497, g497⟩ : ∃ z, z = h486.size := ⟨_, rfl⟩
          have ge498 : n0 ≤ b497 := Nat.le_trans Zs491 (Nat.le_of_eq g497.symm)
          have sz499 : h0.size ≤ b497 := Nat.le_trans KP490.1 (Nat.le_of_eq g497.symm)
          rw [← g497] at A497 st497
          have O500 := O489.ext E497
          have KP501 := KP490.ext E497
          have Zs502 := Nat.le_trans Zs491 E497.1
          have CR503 := CR492.trans (CHr.ext E497 CR492.1)
          have hk504 := Nat.le_trans hk493 E497.1
          have f505 := A486.ext E497
          have f506 := F494.ext E497
          have f507 := F495.ext E497
          have f508 := (Safe.ext E497 CR492.1 sf496)
          have V509 : Arv Z h497 b497 k497 .char (3 : Int32) [(.int (0 : Int32)), (.int (0 : Int32)), (.int (0 : Int32))] (.int (0 : Int32)) := (Arv.new A497 (by decide)).pad (pad_rep [] (.int (0 : Int32)) 3)
          have sf510 := Safe.ext E497 CR492.1 (Safe.new (Nat.le_of_eq g497.symm))
          refine own_back st497 ?_
          show OwnGo p e below (T497.setTop (mkF m 71 #[.val (.int (Int32.ofNat nn)), .val (.int c0), .val (.int c1), .val (.int c2), .val (.int c3)] [(.ref b497), (.ref b486), (.ref b486)])) _
          refine own_back (fun t k => XS.dup X497.here hx rfl (hb hby make_d71) rfl rfl k) ?_
          show OwnGo p e below (T497.setTop (mkF m 72 #[.val (.int (Int32.ofNat nn)), .val (.int c0), .val (.int c1), .val (.int c2), .val (.int c3)] [(.ref b497), (.ref b497), (.ref b486), (.ref b486)])) _
          refine own_back (fun t k => XS.iconst X497.here hx rfl (hb hby make_d72) k) ?_
          show OwnGo p e below (T497.setTop (mkF m 73 #[.val (.int (Int32.ofNat nn)), .val (.int c0), .val (.int c1), .val (.int c2), .val (.int c3)] [(.int (0 : Int32)), (.ref b497), (.ref b497), (.ref b486), (.ref b486)])) _
          refine own_back (fun t k => XS.iloadN X497.here hx rfl (hb hby make_d73) rfl k) ?_
          show OwnGo p e below (T497.setTop (mkF m 74 #[.val (.int (Int32.ofNat nn)), .val (.int c0), .val (.int c1), .val (.int c2), .val (.int c3)] [(.int c0), (.int (0 : Int32)), (.ref b497), (.ref b497), (.ref b486), (.ref b486)])) _
          obtain ⟨c511, A511, q511, S511, M511, H511, U511⟩ := id V509
          obtain ⟨T512, h512, X512, e512, W512, st512⟩ := stC X497 hx hZ e497 A511 (j := (0 : Int32)) (inb_of S511 ⟨by decide, by decide⟩) (g := (mkF m 74 #[.val (.int (Int32.ofNat nn)), .val (.int c0), .val (.int c1), .val (.int c2), .val (.int c3)] [(.int c0), (.int (0 : Int32)), (.ref b497), (.ref b497), (.ref b486), (.ref b486)])) rfl rfl (hb hby make_d74)
          have O513 := O500.wr W512 ge498
          have KP514 := KP501.wr W512 (Or.inr sz499)
          have Zs515 := Nat.le_trans Zs502 (Keep.of_wr W512).1
          have CR516 := CR503.trans (CHr.wr W512 sf510 CR503.1)
          have hk517 := Nat.le_trans hk504 (Keep.of_wr W512).1
          have f518 := f505.wr W512
          have f519 := f506.other W512 (Or.inl (Nat.ne_of_lt (Nat.lt_of_lt_of_le A486.lt (Nat.le_of_eq g497.symm))))
          have f520 := f507.other W512 (Or.inl (Nat.ne_of_lt (Nat.lt_of_lt_of_le A486.lt (Nat.le_of_eq g497.symm))))
          have f521 := (Safe.wr W512 sf510 CR503.1 f508)
          have f522 := (Safe.wr W512 sf510 CR503.1 sf510)
          have V523 : Arv Z h512 b497 k497 .char (3 : Int32) [(.int (nar .char c0)), (.int (0 : Int32)), (.int (0 : Int32))] (.int (0 : Int32)) := Arv.set A511 q511 S511 M511 H511 U511 (fits_nar_char _) W512 0 rfl (Nat.le_of_ble_eq_true rfl)
          have N524 := Fr.snoc X512 N0 ge498
          refine own_back st512 ?_
          show OwnGo p e below (T512.setTop (mkF m 75 #[.val (.int (Int32.ofNat nn)), .val (.int c0), .val (.int c1), .val (.int c2), .val (.int c3)] [(.ref b497), (.ref b486), (.ref b486)])) _
          refine own_back (fun t k => XS.dup X512.here hx rfl (hb hby make_d75) rfl rfl k) ?_
          show OwnGo p e below (T512.setTop (mkF m 76 #[.val (.int (Int32.ofNat nn)), .val (.int c0), .val (.int c1), .val (.int c2), .val (.int c3)] [(.ref b497), (.ref b497), (.ref b486), (.ref b486)])) _
          refine own_back (fun t k => XS.iconst X512.here hx rfl (hb hby make_d76) k) ?_
          show OwnGo p e below (T512.setTop (mkF m 77 #[.val (.int (Int32.ofNat nn)), .val (.int c0), .val (.int c1), .val (.int c2), .val (.int c3)] [(.int (1 : Int32)), (.ref b497), (.ref b497), (.ref b486), (.ref b486)])) _
          refine own_back (fun t k => XS.iloadN X512.here hx rfl (hb hby make_d77) rfl k) ?_
          show OwnGo p e below (T512.setTop (mkF m 78 #[.val (.int (Int32.ofNat nn)), .val (.int c0), .val (.int c1), .val (.int c2), .val (.int c3)] [(.int c1), (.int (1 : Int32)), (.ref b497), (.ref b497), (.ref b486), (.ref b486)])) _
          obtain ⟨c525, A525, q525, S525, M525, H525, U525⟩ := id V523
          obtain ⟨T526, h526, X526, e526, W526, st526⟩ := stC X512 hx hZ e512 A525 (j := (1 : Int32)) (inb_of S525 ⟨by decide, by decide⟩) (g := (mkF m 78 #[.val (.int (Int32.ofNat nn)), .val (.int c0), .val (.int c1), .val (.int c2), .val (.int c3)] [(.int c1), (.int (1 : Int32)), (.ref b497), (.ref b497), (.ref b486), (.ref b486)])) rfl rfl (hb hby make_d78)
          have O527 := O513.wr W526 ge498
          have KP528 := KP514.wr W526 (Or.inr sz499)
          have Zs529 := Nat.le_trans Zs515 (Keep.of_wr W526).1
          have CR530 := CR516.trans (CHr.wr W526 f522 CR516.1)
          have hk531 := Nat.le_trans hk517 (Keep.of_wr W526).1
          have f532 := f518.wr W526
          have f533 := f519.other W526 (Or.inl (Nat.ne_of_lt (Nat.lt_of_lt_of_le A486.lt (Nat.le_of_eq g497.symm))))
          have f534 := f520.other W526 (Or.inl (Nat.ne_of_lt (Nat.lt_of_lt_of_le A486.lt (Nat.le_of_eq g497.symm))))
          have f535 := (Safe.wr W526 f522 CR516.1 f521)
          have f536 := (Safe.wr W526 f522 CR516.1 f522)
          have V537 : Arv Z h526 b497 k497 .char (3 : Int32) [(.int (nar .char c0)), (.int (nar .char c1)), (.int (0 : Int32))] (.int (0 : Int32)) := Arv.set A525 q525 S525 M525 H525 U525 (fits_nar_char _) W526 1 rfl (Nat.le_of_ble_eq_true rfl)
          have N538 := Fr.snoc X526 N524 ge498
          refine own_back st526 ?_
          show OwnGo p e below (T526.setTop (mkF m 79 #[.val (.int (Int32.ofNat nn)), .val (.int c0), .val (.int c1), .val (.int c2), .val (.int c3)] [(.ref b497), (.ref b486), (.ref b486)])) _
          refine own_back (fun t k => XS.dup X526.here hx rfl (hb hby make_d79) rfl rfl k) ?_
          show OwnGo p e below (T526.setTop (mkF m 80 #[.val (.int (Int32.ofNat nn)), .val (.int c0), .val (.int c1), .val (.int c2), .val (.int c3)] [(.ref b497), (.ref b497), (.ref b486), (.ref b486)])) _
          refine own_back (fun t k => XS.iconst X526.here hx rfl (hb hby make_d80) k) ?_
          show OwnGo p e below (T526.setTop (mkF m 81 #[.val (.int (Int32.ofNat nn)), .val (.int c0), .val (.int c1), .val (.int c2), .val (.int c3)] [(.int (2 : Int32)), (.ref b497), (.ref b497), (.ref b486), (.ref b486)])) _
          refine own_back (fun t k => XS.iloadN X526.here hx rfl (hb hby make_d81) rfl k) ?_
          show OwnGo p e below (T526.setTop (mkF m 82 #[.val (.int (Int32.ofNat nn)), .val (.int c0), .val (.int c1), .val (.int c2), .val (.int c3)] [(.int c2), (.int (2 : Int32)), (.ref b497), (.ref b497), (.ref b486), (.ref b486)])) _
          obtain ⟨c539, A539, q539, S539, M539, H539, U539⟩ := id V537
          obtain ⟨T540, h540, X540, e540, W540, st540⟩ := stC X526 hx hZ e526 A539 (j := (2 : Int32)) (inb_of S539 ⟨by decide, by decide⟩) (g := (mkF m 82 #[.val (.int (Int32.ofNat nn)), .val (.int c0), .val (.int c1), .val (.int c2), .val (.int c3)] [(.int c2), (.int (2 : Int32)), (.ref b497), (.ref b497), (.ref b486), (.ref b486)])) rfl rfl (hb hby make_d82)
          have O541 := O527.wr W540 ge498
          have KP542 := KP528.wr W540 (Or.inr sz499)
          have Zs543 := Nat.le_trans Zs529 (Keep.of_wr W540).1
          have CR544 := CR530.trans (CHr.wr W540 f536 CR530.1)
          have hk545 := Nat.le_trans hk531 (Keep.of_wr W540).1
          have f546 := f532.wr W540
          have f547 := f533.other W540 (Or.inl (Nat.ne_of_lt (Nat.lt_of_lt_of_le A486.lt (Nat.le_of_eq g497.symm))))
          have f548 := f534.other W540 (Or.inl (Nat.ne_of_lt (Nat.lt_of_lt_of_le A486.lt (Nat.le_of_eq g497.symm))))
          have f549 := (Safe.wr W540 f536 CR530.1 f535)
          have f550 := (Safe.wr W540 f536 CR530.1 f536)
          have V551 : Arv Z h540 b497 k497 .char (3 : Int32) [(.int (nar .char c0)), (.int (nar .char c1)), (.int (nar .char c2))] (.int (0 : Int32)) := Arv.set A539 q539 S539 M539 H539 U539 (fits_nar_char _) W540 2 rfl (Nat.le_of_ble_eq_true rfl)
          have N552 := Fr.snoc X540 N538 ge498
          refine own_back st540 ?_
          show OwnGo p e below (T540.setTop (mkF m 83 #[.val (.int (Int32.ofNat nn)), .val (.int c0), .val (.int c1), .val (.int c2), .val (.int c3)] [(.ref b497), (.ref b486), (.ref b486)])) _
          obtain ⟨_, _, ⟨T553, L553, k553, n553⟩, -, X553, ⟨Lc553, hQ553, l553, y553, z553⟩, st553⟩ := X540.specialBack hx (y := (⟨"java/lang/String", "<init>", "([C)V"⟩ : MethodName)) rfl hown (mvT hZ (hw _ (List.mem_of_getElem? (i := 12) rfl))) (mvT hZ (hw _ (List.mem_of_getElem? (i := 13) rfl))) (mvT hZ (hw _ (List.mem_of_getElem? (i := 14) rfl))) (by decide) (StrChars.Road.backV (W := 1) hZ (own_wV hw) (kI := 4) (hw _ (List.mem_of_getElem? (i := 10) rfl)) (cs := ([(nar .char c0), (nar .char c1), (nar .char c2)] : List Int32)) (bs := ([(nar .char c0), (nar .char c1), (nar .char c2)] : List Int32).map (fun c => c.toInt8.toInt32)) (n := 3) ge487 Zs543 f546 f547 f548 V551 (SC.ext O541.2) hcz rfl rfl (by decide) (by decide) (own_allS (own_narr r0) (own_allS (own_narr r1) (own_allS (own_narr r2) own_all0))) rfl (by decide) (by decide)) (g := (mkF m 83 #[.val (.int (Int32.ofNat nn)), .val (.int c0), .val (.int c1), .val (.int c2), .val (.int c3)] [(.ref b497), (.ref b486), (.ref b486)])) rfl (by rw [hml]; rfl) (Steps.refl _) (a := b486) (argsL := [(.ref b497)]) (rest := [(.ref b486)]) (lenOf make_pd0 rfl) rfl (by show 2 * 0 + _ ≤ _; exact Nat.le_of_eq rfl) (hb hby make_d83) (fun _ _ => ⟨rfl, e540, Nat.le_of_ble_eq_true rfl, Nat.le_of_ble_eq_true rfl⟩)
          dsimp only [Pt.U, Pt.locs, Pt.cells, Pt.slots] at X553 l553 y553 z553 st553 hQ553
          subst l553 y553 z553
          obtain ⟨rfl, N553q, K553, EX553, C553, t553, kb553, gt553, zt553, nt553, FV553, AV553⟩ := hQ553
          refine own_seq st553 ?_
          have N553 := Fr.app N552 N553q
          have O554 := O541.keep K553 (allS ge487 all0)
          have KP555 := KP542.trans K553 (allS (Or.inr sz488) all0)
          have Zs556 := Nat.le_trans Zs543 K553.1
          have CR557 := CR544.trans (CHr.keep K553 (sfS f549 sf0) CR544.1)
          have hk558 := Nat.le_trans hk545 K553.1
          have f559 := f546.keep K553
          have f560 := (Safe.keep K553 (sfS f549 sf0) CR544.1 f549)
          have f561 := (Safe.keep K553 (sfS f549 sf0) CR544.1 f550)
          have f562 := V551.keep K553 (ninS (Ne.symm (Nat.ne_of_lt (Nat.lt_of_lt_of_le A486.lt (Nat.le_of_eq g497.symm)))) nin0)
          show OwnGo p e below (T553.setTop (mkF m 86 #[.val (.int (Int32.ofNat nn)), .val (.int c0), .val (.int c1), .val (.int c2), .val (.int c3)] [(.ref b486)])) _
          refine own_retAW X553 hx Bd.notSynchronized Bd.returns rfl rfl hS0 hk558 hZ hEL (hh ▸ CR557) (hb hby make_d86) rfl (Nat.le_of_ble_eq_true rfl) (Nat.le_of_ble_eq_true rfl) ?_
          obtain rfl : nn = 3 := own_eqi (n := 3) (by omega) (by omega) hc61_485
          exact ⟨b486, rfl, N553, own_ext KP555, (⟨t553, kb553, EX553, C553, FV553, AV553, Nat.le_of_ble_eq_true rfl⟩ : OwnStr Z T553.heap b486 [((nar .char c0)).toInt8.toInt32, ((nar .char c1)).toInt8.toInt32, ((nar .char c2)).toInt8.toInt32])⟩
        · refine own_back (fun t k => XS.icmpYes X0.here hx rfl (pc0 := 61) (pc' := 87) rfl (hb hby make_d61) rfl (Jvm.Free.XT.ii_ne_t hc61_485) (by decide) (by decide) k) ?_
          show OwnGo p e below (s₁.setTop (mkF m 87 #[.val (.int (Int32.ofNat nn)), .val (.int c0), .val (.int c1), .val (.int c2), .val (.int c3)] [])) _
          obtain ⟨T563, h563, X563, e563, E563, A563, D563, -, st563⟩ := newO X0 hx hZ hown (hw _ (List.mem_of_getElem? (i := 9) rfl)) (hw _ (List.mem_of_getElem? (i := 10) rfl)) (hw _ (List.mem_of_getElem? (i := 11) rfl)) e0 (g := (mkF m 87 #[.val (.int (Int32.ofNat nn)), .val (.int c0), .val (.int c1), .val (.int c2), .val (.int c3)] [])) rfl (hb hby make_d87) (Nat.le_of_ble_eq_true rfl) (Nat.le_of_ble_eq_true rfl)
          obtain ⟨b563, g563⟩ : ∃ z, z = h0.size := ⟨_, rfl⟩
          have ge564 : n0 ≤ b563 := Nat.le_trans Z0 (Nat.le_of_eq g563.symm)
          have sz565 : h0.size ≤ b563 := Nat.le_trans KP0.1 (Nat.le_of_eq g563.symm)
          rw [← g563] at A563 D563 st563
          have O566 := OL.ext E563
          have KP567 := KP0.ext E563
          have Zs568 := Nat.le_trans Z0 E563.1
          have CR569 := CR0.trans (CHr.ext E563 CR0.1)
          have hk570 := Nat.le_trans hk0 E563.1
          have F571 : Fld Z h563 b563 "java/lang/String" "value" "[B" .null := D563 (Or.inr (hw _ (List.mem_of_getElem? (i := 24) rfl))) (ty := (.array .byte)) (by decide)
          have F572 : Fld Z h563 b563 "java/lang/String" "coder" "B" (.int (0 : Int32)) := D563 (Or.inr (hw _ (List.mem_of_getElem? (i := 25) rfl))) (ty := .byte) (by decide)
          have sf573 := Safe.ext E563 CR0.1 (Safe.new (Nat.le_of_eq g563.symm))
          refine own_back st563 ?_
          show OwnGo p e below (T563.setTop (mkF m 90 #[.val (.int (Int32.ofNat nn)), .val (.int c0), .val (.int c1), .val (.int c2), .val (.int c3)] [(.ref b563)])) _
          refine own_back (fun t k => XS.dup X563.here hx rfl (hb hby make_d90) rfl rfl k) ?_
          show OwnGo p e below (T563.setTop (mkF m 91 #[.val (.int (Int32.ofNat nn)), .val (.int c0), .val (.int c1), .val (.int c2), .val (.int c3)] [(.ref b563), (.ref b563)])) _
          refine own_back (fun t k => XS.iconst X563.here hx rfl (hb hby make_d91) k) ?_
          show OwnGo p e below (T563.setTop (mkF m 92 #[.val (.int (Int32.ofNat nn)), .val (.int c0), .val (.int c1), .val (.int c2), .val (.int c3)] [(.int (4 : Int32)), (.ref b563), (.ref b563)])) _
          obtain ⟨T574, h574, k574, X574, e574, E574, A574, st574⟩ := newP X563 hx hZ (hw _ (List.mem_of_getElem? (i := 5) rfl)) e563 (g := (mkF m 92 #[.val (.int (Int32.ofNat nn)), .val (.int c0), .val (.int c1), .val (.int c2), .val (.int c3)] [(.int (4 : Int32)), (.ref b563), (.ref b563)])) rfl (hb hby make_d92) rfl (by decide) (cap := 4) (by decide) (by decide) (Nat.le_of_ble_eq_true rfl) (Nat.le_of_ble_eq_true rfl)
          obtain ⟨b574, g574⟩ : ∃ z, z = h563.size := ⟨_, rfl⟩
          have ge575 : n0 ≤ b574 := Nat.le_trans Zs568 (Nat.le_of_eq g574.symm)
          have sz576 : h0.size ≤ b574 := Nat.le_trans KP567.1 (Nat.le_of_eq g574.symm)
          rw [← g574] at A574 st574
          have O577 := O566.ext E574
          have KP578 := KP567.ext E574
          have Zs579 := Nat.le_trans Zs568 E574.1
          have CR580 := CR569.trans (CHr.ext E574 CR569.1)
          have hk581 := Nat.le_trans hk570 E574.1
          have f582 := A563.ext E574
          have f583 := F571.ext E574
          have f584 := F572.ext E574
          have f585 := (Safe.ext E574 CR569.1 sf573)
          have V586 : Arv Z h574 b574 k574 .char (4 : Int32) [(.int (0 : Int32)), (.int (0 : Int32)), (.int (0 : Int32)), (.int (0 : Int32))] (.int (0 : Int32)) := (Arv.new A574 (by decide)).pad (pad_rep [] (.int (0 : Int32)) 4)
          have sf587 := Safe.ext E574 CR569.1 (Safe.new (Nat.le_of_eq g574.symm))
          refine own_back st574 ?_
          show OwnGo p e below (T574.setTop (mkF m 94 #[.val (.int (Int32.ofNat nn)), .val (.int c0), .val (.int c1), .val (.int c2), .val (.int c3)] [(.ref b574), (.ref b563), (.ref b563)])) _
          refine own_back (fun t k => XS.dup X574.here hx rfl (hb hby make_d94) rfl rfl k) ?_
          show OwnGo p e below (T574.setTop (mkF m 95 #[.val (.int (Int32.ofNat nn)), .val (.int c0), .val (.int c1), .val (.int c2), .val (.int c3)] [(.ref b574), (.ref b574), (.ref b563), (.ref b563)])) _
          refine own_back (fun t k => XS.iconst X574.here hx rfl (hb hby make_d95) k) ?_
          show OwnGo p e below (T574.setTop (mkF m 96 #[.val (.int (Int32.ofNat nn)), .val (.int c0), .val (.int c1), .val (.int c2), .val (.int c3)] [(.int (0 : Int32)), (.ref b574), (.ref b574), (.ref b563), (.ref b563)])) _
          refine own_back (fun t k => XS.iloadN X574.here hx rfl (hb hby make_d96) rfl k) ?_
          show OwnGo p e below (T574.setTop (mkF m 97 #[.val (.int (Int32.ofNat nn)), .val (.int c0), .val (.int c1), .val (.int c2), .val (.int c3)] [(.int c0), (.int (0 : Int32)), (.ref b574), (.ref b574), (.ref b563), (.ref b563)])) _
          obtain ⟨c588, A588, q588, S588, M588, H588, U588⟩ := id V586
          obtain ⟨T589, h589, X589, e589, W589, st589⟩ := stC X574 hx hZ e574 A588 (j := (0 : Int32)) (inb_of S588 ⟨by decide, by decide⟩) (g := (mkF m 97 #[.val (.int (Int32.ofNat nn)), .val (.int c0), .val (.int c1), .val (.int c2), .val (.int c3)] [(.int c0), (.int (0 : Int32)), (.ref b574), (.ref b574), (.ref b563), (.ref b563)])) rfl rfl (hb hby make_d97)
          have O590 := O577.wr W589 ge575
          have KP591 := KP578.wr W589 (Or.inr sz576)
          have Zs592 := Nat.le_trans Zs579 (Keep.of_wr W589).1
          have CR593 := CR580.trans (CHr.wr W589 sf587 CR580.1)
          have hk594 := Nat.le_trans hk581 (Keep.of_wr W589).1
          have f595 := f582.wr W589
          have f596 := f583.other W589 (Or.inl (Nat.ne_of_lt (Nat.lt_of_lt_of_le A563.lt (Nat.le_of_eq g574.symm))))
          have f597 := f584.other W589 (Or.inl (Nat.ne_of_lt (Nat.lt_of_lt_of_le A563.lt (Nat.le_of_eq g574.symm))))
          have f598 := (Safe.wr W589 sf587 CR580.1 f585)
          have f599 := (Safe.wr W589 sf587 CR580.1 sf587)
          have V600 : Arv Z h589 b574 k574 .char (4 : Int32) [(.int (nar .char c0)), (.int (0 : Int32)), (.int (0 : Int32)), (.int (0 : Int32))] (.int (0 : Int32)) := Arv.set A588 q588 S588 M588 H588 U588 (fits_nar_char _) W589 0 rfl (Nat.le_of_ble_eq_true rfl)
          have N601 := Fr.snoc X589 N0 ge575
          refine own_back st589 ?_
          show OwnGo p e below (T589.setTop (mkF m 98 #[.val (.int (Int32.ofNat nn)), .val (.int c0), .val (.int c1), .val (.int c2), .val (.int c3)] [(.ref b574), (.ref b563), (.ref b563)])) _
          refine own_back (fun t k => XS.dup X589.here hx rfl (hb hby make_d98) rfl rfl k) ?_
          show OwnGo p e below (T589.setTop (mkF m 99 #[.val (.int (Int32.ofNat nn)), .val (.int c0), .val (.int c1), .val (.int c2), .val (.int c3)] [(.ref b574), (.ref b574), (.ref b563), (.ref b563)])) _
          refine own_back (fun t k => XS.iconst X589.here hx rfl (hb hby make_d99) k) ?_
          show OwnGo p e below (T589.setTop (mkF m 100 #[.val (.int (Int32.ofNat nn)), .val (.int c0), .val (.int c1), .val (.int c2), .val (.int c3)] [(.int (1 : Int32)), (.ref b574), (.ref b574), (.ref b563), (.ref b563)])) _
          refine own_back (fun t k => XS.iloadN X589.here hx rfl (hb hby make_d100) rfl k) ?_
          show OwnGo p e below (T589.setTop (mkF m 101 #[.val (.int (Int32.ofNat nn)), .val (.int c0), .val (.int c1), .val (.int c2), .val (.int c3)] [(.int c1), (.int (1 : Int32)), (.ref b574), (.ref b574), (.ref b563), (.ref b563)])) _
          obtain ⟨c602, A602, q602, S602, M602, H602, U602⟩ := id V600
          obtain ⟨T603, h603, X603, e603, W603, st603⟩ := stC X589 hx hZ e589 A602 (j := (1 : Int32)) (inb_of S602 ⟨by decide, by decide⟩) (g := (mkF m 101 #[.val (.int (Int32.ofNat nn)), .val (.int c0), .val (.int c1), .val (.int c2), .val (.int c3)] [(.int c1), (.int (1 : Int32)), (.ref b574), (.ref b574), (.ref b563), (.ref b563)])) rfl rfl (hb hby make_d101)
          have O604 := O590.wr W603 ge575
          have KP605 := KP591.wr W603 (Or.inr sz576)
          have Zs606 := Nat.le_trans Zs592 (Keep.of_wr W603).1
          have CR607 := CR593.trans (CHr.wr W603 f599 CR593.1)
          have hk608 := Nat.le_trans hk594 (Keep.of_wr W603).1
          have f609 := f595.wr W603
          have f610 := f596.other W603 (Or.inl (Nat.ne_of_lt (Nat.lt_of_lt_of_le A563.lt (Nat.le_of_eq g574.symm))))
          have f611 := f597.other W603 (Or.inl (Nat.ne_of_lt (Nat.lt_of_lt_of_le A563.lt (Nat.le_of_eq g574.symm))))
          have f612 := (Safe.wr W603 f599 CR593.1 f598)
          have f613 := (Safe.wr W603 f599 CR593.1 f599)
          have V614 : Arv Z h603 b574 k574 .char (4 : Int32) [(.int (nar .char c0)), (.int (nar .char c1)), (.int (0 : Int32)), (.int (0 : Int32))] (.int (0 : Int32)) := Arv.set A602 q602 S602 M602 H602 U602 (fits_nar_char _) W603 1 rfl (Nat.le_of_ble_eq_true rfl)
          have N615 := Fr.snoc X603 N601 ge575
          refine own_back st603 ?_
          show OwnGo p e below (T603.setTop (mkF m 102 #[.val (.int (Int32.ofNat nn)), .val (.int c0), .val (.int c1), .val (.int c2), .val (.int c3)] [(.ref b574), (.ref b563), (.ref b563)])) _
          refine own_back (fun t k => XS.dup X603.here hx rfl (hb hby make_d102) rfl rfl k) ?_
          show OwnGo p e below (T603.setTop (mkF m 103 #[.val (.int (Int32.ofNat nn)), .val (.int c0), .val (.int c1), .val (.int c2), .val (.int c3)] [(.ref b574), (.ref b574), (.ref b563), (.ref b563)])) _
          refine own_back (fun t k => XS.iconst X603.here hx rfl (hb hby make_d103) k) ?_
          show OwnGo p e below (T603.setTop (mkF m 104 #[.val (.int (Int32.ofNat nn)), .val (.int c0), .val (.int c1), .val (.int c2), .val (.int c3)] [(.int (2 : Int32)), (.ref b574), (.ref b574), (.ref b563), (.ref b563)])) _
          refine own_back (fun t k => XS.iloadN X603.here hx rfl (hb hby make_d104) rfl k) ?_
          show OwnGo p e below (T603.setTop (mkF m 105 #[.val (.int (Int32.ofNat nn)), .val (.int c0), .val (.int c1), .val (.int c2), .val (.int c3)] [(.int c2), (.int (2 : Int32)), (.ref b574), (.ref b574), (.ref b563), (.ref b563)])) _
          obtain ⟨c616, A616, q616, S616, M616, H616, U616⟩ := id V614
          obtain ⟨T617, h617, X617, e617, W617, st617⟩ := stC X603 hx hZ e603 A616 (j := (2 : Int32)) (inb_of S616 ⟨by decide, by decide⟩) (g := (mkF m 105 #[.val (.int (Int32.ofNat nn)), .val (.int c0), .val (.int c1), .val (.int c2), .val (.int c3)] [(.int c2), (.int (2 : Int32)), (.ref b574), (.ref b574), (.ref b563), (.ref b563)])) rfl rfl (hb hby make_d105)
          have O618 := O604.wr W617 ge575
          have KP619 := KP605.wr W617 (Or.inr sz576)
          have Zs620 := Nat.le_trans Zs606 (Keep.of_wr W617).1
          have CR621 := CR607.trans (CHr.wr W617 f613 CR607.1)
          have hk622 := Nat.le_trans hk608 (Keep.of_wr W617).1
          have f623 := f609.wr W617
          have f624 := f610.other W617 (Or.inl (Nat.ne_of_lt (Nat.lt_of_lt_of_le A563.lt (Nat.le_of_eq g574.symm))))
          have f625 := f611.other W617 (Or.inl (Nat.ne_of_lt (Nat.lt_of_lt_of_le A563.lt (Nat.le_of_eq g574.symm))))
          have f626 := (Safe.wr W617 f613 CR607.1 f612)
          have f627 := (Safe.wr W617 f613 CR607.1 f613)
          have V628 : Arv Z h617 b574 k574 .char (4 : Int32) [(.int (nar .char c0)), (.int (nar .char c1)), (.int (nar .char c2)), (.int (0 : Int32))] (.int (0 : Int32)) := Arv.set A616 q616 S616 M616 H616 U616 (fits_nar_char _) W617 2 rfl (Nat.le_of_ble_eq_true rfl)
          have N629 := Fr.snoc X617 N615 ge575
          refine own_back st617 ?_
          show OwnGo p e below (T617.setTop (mkF m 106 #[.val (.int (Int32.ofNat nn)), .val (.int c0), .val (.int c1), .val (.int c2), .val (.int c3)] [(.ref b574), (.ref b563), (.ref b563)])) _
          refine own_back (fun t k => XS.dup X617.here hx rfl (hb hby make_d106) rfl rfl k) ?_
          show OwnGo p e below (T617.setTop (mkF m 107 #[.val (.int (Int32.ofNat nn)), .val (.int c0), .val (.int c1), .val (.int c2), .val (.int c3)] [(.ref b574), (.ref b574), (.ref b563), (.ref b563)])) _
          refine own_back (fun t k => XS.iconst X617.here hx rfl (hb hby make_d107) k) ?_
          show OwnGo p e below (T617.setTop (mkF m 108 #[.val (.int (Int32.ofNat nn)), .val (.int c0), .val (.int c1), .val (.int c2), .val (.int c3)] [(.int (3 : Int32)), (.ref b574), (.ref b574), (.ref b563), (.ref b563)])) _
          refine own_back (fun t k => XS.iload X617.here hx rfl (hb hby make_d108) rfl k) ?_
          show OwnGo p e below (T617.setTop (mkF m 110 #[.val (.int (Int32.ofNat nn)), .val (.int c0), .val (.int c1), .val (.int c2), .val (.int c3)] [(.int c3), (.int (3 : Int32)), (.ref b574), (.ref b574), (.ref b563), (.ref b563)])) _
          obtain ⟨c630, A630, q630, S630, M630, H630, U630⟩ := id V628
          obtain ⟨T631, h631, X631, e631, W631, st631⟩ := stC X617 hx hZ e617 A630 (j := (3 : Int32)) (inb_of S630 ⟨by decide, by decide⟩) (g := (mkF m 110 #[.val (.int (Int32.ofNat nn)), .val (.int c0), .val (.int c1), .val (.int c2), .val (.int c3)] [(.int c3), (.int (3 : Int32)), (.ref b574), (.ref b574), (.ref b563), (.ref b563)])) rfl rfl (hb hby make_d110)
          have O632 := O618.wr W631 ge575
          have KP633 := KP619.wr W631 (Or.inr sz576)
          have Zs634 := Nat.le_trans Zs620 (Keep.of_wr W631).1
          have CR635 := CR621.trans (CHr.wr W631 f627 CR621.1)
          have hk636 := Nat.le_trans hk622 (Keep.of_wr W631).1
          have f637 := f623.wr W631
          have f638 := f624.other W631 (Or.inl (Nat.ne_of_lt (Nat.lt_of_lt_of_le A563.lt (Nat.le_of_eq g574.symm))))
          have f639 := f625.other W631 (Or.inl (Nat.ne_of_lt (Nat.lt_of_lt_of_le A563.lt (Nat.le_of_eq g574.symm))))
          have f640 := (Safe.wr W631 f627 CR621.1 f626)
          have f641 := (Safe.wr W631 f627 CR621.1 f627)
          have V642 : Arv Z h631 b574 k574 .char (4 : Int32) [(.int (nar .char c0)), (.int (nar .char c1)), (.int (nar .char c2)), (.int (nar .char c3))] (.int (0 : Int32)) := Arv.set A630 q630 S630 M630 H630 U630 (fits_nar_char _) W631 3 rfl (Nat.le_of_ble_eq_true rfl)
          have N643 := Fr.snoc X631 N629 ge575
          refine own_back st631 ?_
          show OwnGo p e below (T631.setTop (mkF m 111 #[.val (.int (Int32.ofNat nn)), .val (.int c0), .val (.int c1), .val (.int c2), .val (.int c3)] [(.ref b574), (.ref b563), (.ref b563)])) _
          obtain ⟨_, _, ⟨T644, L644, k644, n644⟩, -, X644, ⟨Lc644, hQ644, l644, y644, z644⟩, st644⟩ := X631.specialBack hx (y := (⟨"java/lang/String", "<init>", "([C)V"⟩ : MethodName)) rfl hown (mvT hZ (hw _ (List.mem_of_getElem? (i := 12) rfl))) (mvT hZ (hw _ (List.mem_of_getElem? (i := 13) rfl))) (mvT hZ (hw _ (List.mem_of_getElem? (i := 14) rfl))) (by decide) (StrChars.Road.backV (W := 1) hZ (own_wV hw) (kI := 4) (hw _ (List.mem_of_getElem? (i := 10) rfl)) (cs := ([(nar .char c0), (nar .char c1), (nar .char c2), (nar .char c3)] : List Int32)) (bs := ([(nar .char c0), (nar .char c1), (nar .char c2), (nar .char c3)] : List Int32).map (fun c => c.toInt8.toInt32)) (n := 4) ge564 Zs634 f637 f638 f639 V642 (SC.ext O632.2) hcz rfl rfl (by decide) (by decide) (own_allS (own_narr r0) (own_allS (own_narr r1) (own_allS (own_narr r2) (own_allS (own_narr r3) own_all0)))) rfl (by decide) (by decide)) (g := (mkF m 111 #[.val (.int (Int32.ofNat nn)), .val (.int c0), .val (.int c1), .val (.int c2), .val (.int c3)] [(.ref b574), (.ref b563), (.ref b563)])) rfl (by rw [hml]; rfl) (Steps.refl _) (a := b563) (argsL := [(.ref b574)]) (rest := [(.ref b563)]) (lenOf make_pd0 rfl) rfl (by show 2 * 0 + _ ≤ _; exact Nat.le_of_eq rfl) (hb hby make_d111) (fun _ _ => ⟨rfl, e631, Nat.le_of_ble_eq_true rfl, Nat.le_of_ble_eq_true rfl⟩)
          dsimp only [Pt.U, Pt.locs, Pt.cells, Pt.slots] at X644 l644 y644 z644 st644 hQ644
          subst l644 y644 z644
          obtain ⟨rfl, N644q, K644, EX644, C644, t644, kb644, gt644, zt644, nt644, FV644, AV644⟩ := hQ644
          refine own_seq st644 ?_
          have N644 := Fr.app N643 N644q
          have O645 := O632.keep K644 (allS ge564 all0)
          have KP646 := KP633.trans K644 (allS (Or.inr sz565) all0)
          have Zs647 := Nat.le_trans Zs634 K644.1
          have CR648 := CR635.trans (CHr.keep K644 (sfS f640 sf0) CR635.1)
          have hk649 := Nat.le_trans hk636 K644.1
          have f650 := f637.keep K644
          have f651 := (Safe.keep K644 (sfS f640 sf0) CR635.1 f640)
          have f652 := (Safe.keep K644 (sfS f640 sf0) CR635.1 f641)
          have f653 := V642.keep K644 (ninS (Ne.symm (Nat.ne_of_lt (Nat.lt_of_lt_of_le A563.lt (Nat.le_of_eq g574.symm)))) nin0)
          show OwnGo p e below (T644.setTop (mkF m 114 #[.val (.int (Int32.ofNat nn)), .val (.int c0), .val (.int c1), .val (.int c2), .val (.int c3)] [(.ref b563)])) _
          refine own_retAW X644 hx Bd.notSynchronized Bd.returns rfl rfl hS0 hk649 hZ hEL (hh ▸ CR648) (hb hby make_d114) rfl (Nat.le_of_ble_eq_true rfl) (Nat.le_of_ble_eq_true rfl) ?_
          obtain rfl : nn = 4 := own_is4 hn (fun q => hc1_336 (by rw [q]; rfl)) (fun q => hc17_371 (by rw [q]; rfl)) (fun q => hc37_421 (by rw [q]; rfl)) (fun q => hc61_485 (by rw [q]; rfl))
          exact ⟨b563, rfl, N644, own_ext KP646, (⟨t644, kb644, EX644, C644, FV644, AV644, Nat.le_of_ble_eq_true rfl⟩ : OwnStr Z T644.heap b563 [((nar .char c0)).toInt8.toInt32, ((nar .char c1)).toInt8.toInt32, ((nar .char c2)).toInt8.toInt32, ((nar .char c3)).toInt8.toInt32])⟩
theorem own_le4 (q : Nat) (h : q ≤ 4) : q = 0 ∨ q = 1 ∨ q = 2 ∨ q = 3 ∨ q = 4 := by omega
theorem own_cs (c0 c1 c2 c3 : Int32) {i : Nat} (h : i < 4) : ([.int (nar .char c0), .int (nar .char c1), .int (nar .char c2), .int (nar .char c3)] : List Value).getD (Int32.ofNat i).toNatClampNeg (.int 0) = .int (nar .char ([c0, c1, c2, c3].getD i 0)) := by
  rw [own_clamp (by omega)]
  have : i = 0 ∨ i = 1 ∨ i = 2 ∨ i = 3 := by omega
  rcases this with rfl | rfl | rfl | rfl <;> rfl
theorem own_rget {c0 c1 c2 c3 : Int32} (r0 : own_r c0) (r1 : own_r c1) (r2 : own_r c2) (r3 : own_r c3) {i : Nat} (h : i < 4) : own_r ([c0, c1, c2, c3].getD i 0) := by
  have : i = 0 ∨ i = 1 ∨ i = 2 ∨ i = 3 := by omega
  rcases this with rfl | rfl | rfl | rfl
  · exact r0
  · exact r1
  · exact r2
  · exact r3
theorem own_k1 {k : Int32} {P Q : Prop} [Decidable P] [Decidable Q] (h : k = (if P ∧ ¬ Q then (1 : Int32) else 0)) (q : ¬ k = 0) : P ∧ ¬ Q := Decidable.byContradiction fun z => q (by rw [h, if_neg z])
theorem own_k0 {k : Int32} {P Q : Prop} [Decidable P] [Decidable Q] (h : k = (if P ∧ ¬ Q then (1 : Int32) else 0)) (q : k = 0) : P → Q := fun z => Decidable.byContradiction fun y => by
  rw [h, if_pos ⟨z, y⟩] at q
  exact absurd q (by decide)
theorem own_lt4 (q : Nat) (h : q < 4) : q = 0 ∨ q = 1 ∨ q = 2 ∨ q = 3 := by omega
theorem own_rl (bs : List Int32) (su eu : Nat) {nn : Nat} (h : bs.length = nn) (h2 : eu ≤ nn) : ((bs.drop su).take (eu - su)).length = eu - su := by
  rw [List.length_take, List.length_drop]
  omega
theorem own_ltn {i n : Nat} (hi : i < 2 ^ 31) (hn : n < 2 ^ 31) (h : Int32.ofNat i < Int32.ofNat n) : i < n := by
  rw [Int32.lt_iff_toInt_lt, own_i32 hi, own_i32 hn] at h
  omega
theorem lw_pn : plainName "com/example/kerbline/kerbline/InputFileTrimBlanksPinLaw" = true := by first | (simp [plainName, overriddenIn]; done) | decide +kernel
theorem lw_pd0 : parseMethodDescriptor "(I)C" = some ⟨[.int], some .char⟩ := by decide +kernel
theorem lw_pd1 : parseMethodDescriptor "(ICCCC)Ljava/lang/String;" = some ⟨[.int, .char, .char, .char, .char], some (.object "java/lang/String")⟩ := by decide +kernel
theorem lw_pd2 : parseMethodDescriptor "(Ljava/lang/String;)Ljava/lang/String;" = some ⟨[(.object "java/lang/String")], some (.object "java/lang/String")⟩ := by decide +kernel
theorem lw_pd3 : parseMethodDescriptor "()I" = some ⟨[], some .int⟩ := by decide +kernel
theorem lw_pd4 : parseMethodDescriptor "(C)Z" = some ⟨[.char], some .boolean⟩ := by decide +kernel
theorem lw_ef (m : MethodId) (x0 : Int32) (x1 : Int32) (x2 : Int32) (x3 : Int32) (x4 : Int32) : entryFrame m #[(.int x0), (.int x1), (.int x2), (.int x3), (.int x4)] maxLocals = mkF m 0 #[.val (.int x0), .val (.int x1), .val (.int x2), .val (.int x3), .val (.int x4), .unset, .unset, .unset, .unset, .unset, .unset, .unset, .unset, .unset, .unset, .unset, .unset, .unset, .unset, .unset] [] := by first | (simp [entryFrame, mkF, argsToLocals, Value.category, maxLocals]; done) | rfl
set_option maxRecDepth 65536 in
set_option maxHeartbeats 40000000 in
theorem rm_law (l : Launch) (Z : State) (a0 : Array Value) (hw : ∀ d ∈ tables_1, d.before a0 Z = true) (ws : List Jvm.Cond) (p1 : Int32) (p2 : Int32) (p3 : Int32) (p4 : Int32) (p5 : Int32) (cz : Int32) (fm : Value) (h0 : Heap) (n0 : Nat) (Z0 : n0 ≤ h0.size) (OL : Old Z n0 h0) (SC : Sta Z Z.heap "java/lang/String" "COMPACT_STRINGS" "Z" (.int cz)) (hcz : ¬ cz = 0) (SO : Sta Z Z.heap "jdk/internal/util/Preconditions" "SIOOBE_FORMATTER" "Ljava/util/function/BiFunction;" fm) (hfm : fm.isRef = true) :
    MetFree l x (head1 (Jvm.Cond.code x code maxLocals ret :: ws) room_1) (fun a U => a = #[(.int p1), (.int p2), (.int p3), (.int p4), (.int p5)] ∧ Z.Warmed39 U.vm ∧ U.heap = h0 ∧ CHv Z own_EL U.vm h0 ∧ ∀ x ∈ ([] : List Addr), Safe Z own_EL U.vm h0 x) (fun _ _ _ _ _ => True) (fun _ U o U' => OwnEndW Z own_EL U (fun v h L => v = some (.int 1) ∧ Fr n0 L) room_1.cells room_1.slots o U') := by
  refine MetFree.of_bodySF (plainFor_of_name lw_pn) hisR ?_
  intro p e s m args below meth c s₁ Bd hml0 hP hK
  obtain ⟨rfl, hZ, hh, hCH, hSL⟩ := hP
  have hx := Bd.exec
  have hby := Bd.bytes
  have hml : c.maxLocals = 20 := hml0
  have hown : s.vm.findClass "com/example/kerbline/kerbline/InputFileTrimBlanksPinLaw" = some m.cls := findClass_of_methodNamed Bd.named
  have hnm := (name_of_methodNamed Bd.named Bd.method).1
  have X0 : Stand p l e room_1 (s.setVm s.vm) m #[(.int p1), (.int p2), (.int p3), (.int p4), (.int p5)] below meth c s₁ [] 0 0 := Stand.of_body Bd
  have e0 : s₁.heap = h0 := by rw [← hh, Bd.state]; rfl
  have N0 := Fr.nil n0
  have KP0 := Keep.refl h0 []
  have hown : (s.setVm s.vm).vm.findClass "com/example/kerbline/kerbline/InputFileTrimBlanksPinLaw" = some m.cls := hown
  have hZ : Z.Warmed39 (s.setVm s.vm).vm := hZ
  have hS0 : s.Since s.vm 0 := (State.WarmedH.refl s).since 0
  have hk0 : 0 ≤ h0.size := Nat.zero_le _
  have CR0 : CHr Z own_EL s.vm h0 s.vm h0 := CHr.refl hCH
  have hEL := own_EW hw
  refine own_go (Q := (OwnEndW Z own_EL s (fun v h L => v = some (.int 1) ∧ Fr n0 L) room_1.cells room_1.slots)) ?_
  refine own_back (fun t k => castTop (lw_ef m p1 p2 p3 p4 p5) k) ?_
  show OwnGo p e below (s₁.setTop (mkF m 0 #[.val (.int p1), .val (.int p2), .val (.int p3), .val (.int p4), .val (.int p5), .unset, .unset, .unset, .unset, .unset, .unset, .unset, .unset, .unset, .unset, .unset, .unset, .unset, .unset, .unset] [])) _
  refine own_back (fun t k => XS.iloadN X0.here hx rfl (hb hby at_0) rfl k) ?_
  show OwnGo p e below (s₁.setTop (mkF m 1 #[.val (.int p1), .val (.int p2), .val (.int p3), .val (.int p4), .val (.int p5), .unset, .unset, .unset, .unset, .unset, .unset, .unset, .unset, .unset, .unset, .unset, .unset, .unset, .unset, .unset] [(.int p1)])) _
  refine own_back (fun t k => X0.ldcInt hx hown (mvT hZ (hw _ (List.mem_of_getElem? (i := 0) rfl))) (g := (mkF m 1 #[.val (.int p1), .val (.int p2), .val (.int p3), .val (.int p4), .val (.int p5), .unset, .unset, .unset, .unset, .unset, .unset, .unset, .unset, .unset, .unset, .unset, .unset, .unset, .unset, .unset] [(.int p1)])) rfl (hb hby at_1) t k) ?_
  show OwnGo p e below (s₁.setTop (mkF m 3 #[.val (.int p1), .val (.int p2), .val (.int p3), .val (.int p4), .val (.int p5), .unset, .unset, .unset, .unset, .unset, .unset, .unset, .unset, .unset, .unset, .unset, .unset, .unset, .unset, .unset] [(.int (2147483647 : Int32)), (.int p1)])) _
  refine own_back (fun t k => XS.iand X0.here hx rfl (hb hby at_3) rfl k) ?_
  show OwnGo p e below (s₁.setTop (mkF m 4 #[.val (.int p1), .val (.int p2), .val (.int p3), .val (.int p4), .val (.int p5), .unset, .unset, .unset, .unset, .unset, .unset, .unset, .unset, .unset, .unset, .unset, .unset, .unset, .unset, .unset] [(.int (p1 &&& (2147483647 : Int32)))])) _
  refine own_back (fun t k => XS.iconst X0.here hx rfl (hb hby at_4) k) ?_
  show OwnGo p e below (s₁.setTop (mkF m 5 #[.val (.int p1), .val (.int p2), .val (.int p3), .val (.int p4), .val (.int p5), .unset, .unset, .unset, .unset, .unset, .unset, .unset, .unset, .unset, .unset, .unset, .unset, .unset, .unset, .unset] [(.int (5 : Int32)), (.int (p1 &&& (2147483647 : Int32)))])) _
  refine own_back (fun t k => iremM X0 hx rfl (hb hby at_5) rfl (by decide) k) ?_
  show OwnGo p e below (s₁.setTop (mkF m 6 #[.val (.int p1), .val (.int p2), .val (.int p3), .val (.int p4), .val (.int p5), .unset, .unset, .unset, .unset, .unset, .unset, .unset, .unset, .unset, .unset, .unset, .unset, .unset, .unset, .unset] [(.int ((p1 &&& (2147483647 : Int32)) % (5 : Int32)))])) _
  obtain ⟨nn, hn, hne⟩ := own_rem5 p1
  rw [hne]
  show OwnGo p e below (s₁.setTop (mkF m 6 #[.val (.int p1), .val (.int p2), .val (.int p3), .val (.int p4), .val (.int p5), .unset, .unset, .unset, .unset, .unset, .unset, .unset, .unset, .unset, .unset, .unset, .unset, .unset, .unset, .unset] [(.int (Int32.ofNat nn))])) _
  refine own_back (fun t k => XS.istore X0.here hx rfl (hb hby at_6) rfl (l' := #[.val (.int p1), .val (.int p2), .val (.int p3), .val (.int p4), .val (.int p5), .val (.int (Int32.ofNat nn)), .unset, .unset, .unset, .unset, .unset, .unset, .unset, .unset, .unset, .unset, .unset, .unset, .unset, .unset]) rfl k) ?_
  show OwnGo p e below (s₁.setTop (mkF m 8 #[.val (.int p1), .val (.int p2), .val (.int p3), .val (.int p4), .val (.int p5), .val (.int (Int32.ofNat nn)), .unset, .unset, .unset, .unset, .unset, .unset, .unset, .unset, .unset, .unset, .unset, .unset, .unset, .unset] [])) _
  refine own_back (fun t k => XS.iloadN X0.here hx rfl (hb hby at_8) rfl k) ?_
  show OwnGo p e below (s₁.setTop (mkF m 9 #[.val (.int p1), .val (.int p2), .val (.int p3), .val (.int p4), .val (.int p5), .val (.int (Int32.ofNat nn)), .unset, .unset, .unset, .unset, .unset, .unset, .unset, .unset, .unset, .unset, .unset, .unset, .unset, .unset] [(.int p2)])) _
  obtain ⟨_, _, ⟨T654, L654, k654, n654⟩, -, X654, ⟨Lc654, hQ654, l654, y654, z654⟩, st654⟩ := Jvm.LawKit.callS X0 hx (y := (⟨"com/example/kerbline/kerbline/InputFileTrimBlanksPinLaw", "ch", "(I)C"⟩ : MethodName)) hown (mvT hZ (hw _ (List.mem_of_getElem? (i := 1) rfl))) (mvT hZ (hw _ (List.mem_of_getElem? (i := 2) rfl))) (mvT hZ (hw _ (List.mem_of_getElem? (i := 3) rfl))) (mvT hZ (hw _ (List.mem_of_getElem? (i := 4) rfl))) (by decide) (own_backN (W := 0) (rm_cx l Z a0 hw [] p2 h0 n0 Z0) hZ (hw _ (List.mem_of_getElem? (i := 4) rfl)) (hw _ (List.mem_of_getElem? (i := 3) rfl)) (by decide) (by decide)) (g := (mkF m 9 #[.val (.int p1), .val (.int p2), .val (.int p3), .val (.int p4), .val (.int p5), .val (.int (Int32.ofNat nn)), .unset, .unset, .unset, .unset, .unset, .unset, .unset, .unset, .unset, .unset, .unset, .unset, .unset, .unset] [(.int p2)])) rfl (by rw [hml]; rfl) (argsL := [(.int p2)]) (rest := []) (lenOf lw_pd0 rfl) rfl (by show 2 * 0 + _ ≤ _; exact Nat.le_of_eq rfl) (hb hby at_9) (fun _ _ => ⟨rfl, e0, Nat.le_of_ble_eq_true rfl, Nat.le_of_ble_eq_true rfl⟩)
  dsimp only [Pt.U, Pt.locs, Pt.cells, Pt.slots] at X654 l654 y654 z654 st654 hQ654
  subst l654 y654 z654
  obtain ⟨c0, rfl, r0, N654q, hh654⟩ := hQ654
  refine own_back st654 ?_
  have N654 := Fr.app N0 N654q
  show OwnGo p e below (T654.setTop (mkF m 12 #[.val (.int p1), .val (.int p2), .val (.int p3), .val (.int p4), .val (.int p5), .val (.int (Int32.ofNat nn)), .unset, .unset, .unset, .unset, .unset, .unset, .unset, .unset, .unset, .unset, .unset, .unset, .unset, .unset] [(.int c0)])) _
  refine own_back (fun t k => XS.istore X654.here hx rfl (hb hby at_12) rfl (l' := #[.val (.int p1), .val (.int p2), .val (.int p3), .val (.int p4), .val (.int p5), .val (.int (Int32.ofNat nn)), .val (.int c0), .unset, .unset, .unset, .unset, .unset, .unset, .unset, .unset, .unset, .unset, .unset, .unset, .unset]) rfl k) ?_
  show OwnGo p e below (T654.setTop (mkF m 14 #[.val (.int p1), .val (.int p2), .val (.int p3), .val (.int p4), .val (.int p5), .val (.int (Int32.ofNat nn)), .val (.int c0), .unset, .unset, .unset, .unset, .unset, .unset, .unset, .unset, .unset, .unset, .unset, .unset, .unset] [])) _
  refine own_back (fun t k => XS.iloadN X654.here hx rfl (hb hby at_14) rfl k) ?_
  show OwnGo p e below (T654.setTop (mkF m 15 #[.val (.int p1), .val (.int p2), .val (.int p3), .val (.int p4), .val (.int p5), .val (.int (Int32.ofNat nn)), .val (.int c0), .unset, .unset, .unset, .unset, .unset, .unset, .unset, .unset, .unset, .unset, .unset, .unset, .unset] [(.int p3)])) _
  obtain ⟨_, _, ⟨T655, L655, k655, n655⟩, -, X655, ⟨Lc655, hQ655, l655, y655, z655⟩, st655⟩ := Jvm.LawKit.callS X654 hx (y := (⟨"com/example/kerbline/kerbline/InputFileTrimBlanksPinLaw", "ch", "(I)C"⟩ : MethodName)) hown (mvT hZ (hw _ (List.mem_of_getElem? (i := 1) rfl))) (mvT hZ (hw _ (List.mem_of_getElem? (i := 2) rfl))) (mvT hZ (hw _ (List.mem_of_getElem? (i := 3) rfl))) (mvT hZ (hw _ (List.mem_of_getElem? (i := 4) rfl))) (by decide) (own_backN (W := 0) (rm_cx l Z a0 hw [] p3 h0 n0 Z0) hZ (hw _ (List.mem_of_getElem? (i := 4) rfl)) (hw _ (List.mem_of_getElem? (i := 3) rfl)) (by decide) (by decide)) (g := (mkF m 15 #[.val (.int p1), .val (.int p2), .val (.int p3), .val (.int p4), .val (.int p5), .val (.int (Int32.ofNat nn)), .val (.int c0), .unset, .unset, .unset, .unset, .unset, .unset, .unset, .unset, .unset, .unset, .unset, .unset, .unset] [(.int p3)])) rfl (by rw [hml]; rfl) (argsL := [(.int p3)]) (rest := []) (lenOf lw_pd0 rfl) rfl (by show 2 * 0 + _ ≤ _; exact Nat.le_of_eq rfl) (hb hby at_15) (fun _ _ => ⟨rfl, hh654, Nat.le_of_ble_eq_true rfl, Nat.le_of_ble_eq_true rfl⟩)
  dsimp only [Pt.U, Pt.locs, Pt.cells, Pt.slots] at X655 l655 y655 z655 st655 hQ655
  subst l655 y655 z655
  obtain ⟨c1, rfl, r1, N655q, hh655⟩ := hQ655
  refine own_back st655 ?_
  have N655 := Fr.app N654 N655q
  show OwnGo p e below (T655.setTop (mkF m 18 #[.val (.int p1), .val (.int p2), .val (.int p3), .val (.int p4), .val (.int p5), .val (.int (Int32.ofNat nn)), .val (.int c0), .unset, .unset, .unset, .unset, .unset, .unset, .unset, .unset, .unset, .unset, .unset, .unset, .unset] [(.int c1)])) _
  refine own_back (fun t k => XS.istore X655.here hx rfl (hb hby at_18) rfl (l' := #[.val (.int p1), .val (.int p2), .val (.int p3), .val (.int p4), .val (.int p5), .val (.int (Int32.ofNat nn)), .val (.int c0), .val (.int c1), .unset, .unset, .unset, .unset, .unset, .unset, .unset, .unset, .unset, .unset, .unset, .unset]) rfl k) ?_
  show OwnGo p e below (T655.setTop (mkF m 20 #[.val (.int p1), .val (.int p2), .val (.int p3), .val (.int p4), .val (.int p5), .val (.int (Int32.ofNat nn)), .val (.int c0), .val (.int c1), .unset, .unset, .unset, .unset, .unset, .unset, .unset, .unset, .unset, .unset, .unset, .unset] [])) _
  refine own_back (fun t k => XS.iloadN X655.here hx rfl (hb hby at_20) rfl k) ?_
  show OwnGo p e below (T655.setTop (mkF m 21 #[.val (.int p1), .val (.int p2), .val (.int p3), .val (.int p4), .val (.int p5), .val (.int (Int32.ofNat nn)), .val (.int c0), .val (.int c1), .unset, .unset, .unset, .unset, .unset, .unset, .unset, .unset, .unset, .unset, .unset, .unset] [(.int p4)])) _
  obtain ⟨_, _, ⟨T656, L656, k656, n656⟩, -, X656, ⟨Lc656, hQ656, l656, y656, z656⟩, st656⟩ := Jvm.LawKit.callS X655 hx (y := (⟨"com/example/kerbline/kerbline/InputFileTrimBlanksPinLaw", "ch", "(I)C"⟩ : MethodName)) hown (mvT hZ (hw _ (List.mem_of_getElem? (i := 1) rfl))) (mvT hZ (hw _ (List.mem_of_getElem? (i := 2) rfl))) (mvT hZ (hw _ (List.mem_of_getElem? (i := 3) rfl))) (mvT hZ (hw _ (List.mem_of_getElem? (i := 4) rfl))) (by decide) (own_backN (W := 0) (rm_cx l Z a0 hw [] p4 h0 n0 Z0) hZ (hw _ (List.mem_of_getElem? (i := 4) rfl)) (hw _ (List.mem_of_getElem? (i := 3) rfl)) (by decide) (by decide)) (g := (mkF m 21 #[.val (.int p1), .val (.int p2), .val (.int p3), .val (.int p4), .val (.int p5), .val (.int (Int32.ofNat nn)), .val (.int c0), .val (.int c1), .unset, .unset, .unset, .unset, .unset, .unset, .unset, .unset, .unset, .unset, .unset, .unset] [(.int p4)])) rfl (by rw [hml]; rfl) (argsL := [(.int p4)]) (rest := []) (lenOf lw_pd0 rfl) rfl (by show 2 * 0 + _ ≤ _; exact Nat.le_of_eq rfl) (hb hby at_21) (fun _ _ => ⟨rfl, hh655, Nat.le_of_ble_eq_true rfl, Nat.le_of_ble_eq_true rfl⟩)
  dsimp only [Pt.U, Pt.locs, Pt.cells, Pt.slots] at X656 l656 y656 z656 st656 hQ656
  subst l656 y656 z656
  obtain ⟨c2, rfl, r2, N656q, hh656⟩ := hQ656
  refine own_back st656 ?_
  have N656 := Fr.app N655 N656q
  show OwnGo p e below (T656.setTop (mkF m 24 #[.val (.int p1), .val (.int p2), .val (.int p3), .val (.int p4), .val (.int p5), .val (.int (Int32.ofNat nn)), .val (.int c0), .val (.int c1), .unset, .unset, .unset, .unset, .unset, .unset, .unset, .unset, .unset, .unset, .unset, .unset] [(.int c2)])) _
  refine own_back (fun t k => XS.istore X656.here hx rfl (hb hby at_24) rfl (l' := #[.val (.int p1), .val (.int p2), .val (.int p3), .val (.int p4), .val (.int p5), .val (.int (Int32.ofNat nn)), .val (.int c0), .val (.int c1), .val (.int c2), .unset, .unset, .unset, .unset, .unset, .unset, .unset, .unset, .unset, .unset, .unset]) rfl k) ?_
  show OwnGo p e below (T656.setTop (mkF m 26 #[.val (.int p1), .val (.int p2), .val (.int p3), .val (.int p4), .val (.int p5), .val (.int (Int32.ofNat nn)), .val (.int c0), .val (.int c1), .val (.int c2), .unset, .unset, .unset, .unset, .unset, .unset, .unset, .unset, .unset, .unset, .unset] [])) _
  refine own_back (fun t k => XS.iload X656.here hx rfl (hb hby at_26) rfl k) ?_
  show OwnGo p e below (T656.setTop (mkF m 28 #[.val (.int p1), .val (.int p2), .val (.int p3), .val (.int p4), .val (.int p5), .val (.int (Int32.ofNat nn)), .val (.int c0), .val (.int c1), .val (.int c2), .unset, .unset, .unset, .unset, .unset, .unset, .unset, .unset, .unset, .unset, .unset] [(.int p5)])) _
  obtain ⟨_, _, ⟨T657, L657, k657, n657⟩, -, X657, ⟨Lc657, hQ657, l657, y657, z657⟩, st657⟩ := Jvm.LawKit.callS X656 hx (y := (⟨"com/example/kerbline/kerbline/InputFileTrimBlanksPinLaw", "ch", "(I)C"⟩ : MethodName)) hown (mvT hZ (hw _ (List.mem_of_getElem? (i := 1) rfl))) (mvT hZ (hw _ (List.mem_of_getElem? (i := 2) rfl))) (mvT hZ (hw _ (List.mem_of_getElem? (i := 3) rfl))) (mvT hZ (hw _ (List.mem_of_getElem? (i := 4) rfl))) (by decide) (own_backN (W := 0) (rm_cx l Z a0 hw [] p5 h0 n0 Z0) hZ (hw _ (List.mem_of_getElem? (i := 4) rfl)) (hw _ (List.mem_of_getElem? (i := 3) rfl)) (by decide) (by decide)) (g := (mkF m 28 #[.val (.int p1), .val (.int p2), .val (.int p3), .val (.int p4), .val (.int p5), .val (.int (Int32.ofNat nn)), .val (.int c0), .val (.int c1), .val (.int c2), .unset, .unset, .unset, .unset, .unset, .unset, .unset, .unset, .unset, .unset, .unset] [(.int p5)])) rfl (by rw [hml]; rfl) (argsL := [(.int p5)]) (rest := []) (lenOf lw_pd0 rfl) rfl (by show 2 * 0 + _ ≤ _; exact Nat.le_of_eq rfl) (hb hby at_28) (fun _ _ => ⟨rfl, hh656, Nat.le_of_ble_eq_true rfl, Nat.le_of_ble_eq_true rfl⟩)
  dsimp only [Pt.U, Pt.locs, Pt.cells, Pt.slots] at X657 l657 y657 z657 st657 hQ657
  subst l657 y657 z657
  obtain ⟨c3, rfl, r3, N657q, hh657⟩ := hQ657
  refine own_back st657 ?_
  have N657 := Fr.app N656 N657q
  show OwnGo p e below (T657.setTop (mkF m 31 #[.val (.int p1), .val (.int p2), .val (.int p3), .val (.int p4), .val (.int p5), .val (.int (Int32.ofNat nn)), .val (.int c0), .val (.int c1), .val (.int c2), .unset, .unset, .unset, .unset, .unset, .unset, .unset, .unset, .unset, .unset, .unset] [(.int c3)])) _
  refine own_back (fun t k => XS.istore X657.here hx rfl (hb hby at_31) rfl (l' := #[.val (.int p1), .val (.int p2), .val (.int p3), .val (.int p4), .val (.int p5), .val (.int (Int32.ofNat nn)), .val (.int c0), .val (.int c1), .val (.int c2), .val (.int c3), .unset, .unset, .unset, .unset, .unset, .unset, .unset, .unset, .unset, .unset]) rfl k) ?_
  show OwnGo p e below (T657.setTop (mkF m 33 #[.val (.int p1), .val (.int p2), .val (.int p3), .val (.int p4), .val (.int p5), .val (.int (Int32.ofNat nn)), .val (.int c0), .val (.int c1), .val (.int c2), .val (.int c3), .unset, .unset, .unset, .unset, .unset, .unset, .unset, .unset, .unset, .unset] [])) _
  refine own_back (fun t k => XS.iconst X657.here hx rfl (hb hby at_33) k) ?_
  show OwnGo p e below (T657.setTop (mkF m 34 #[.val (.int p1), .val (.int p2), .val (.int p3), .val (.int p4), .val (.int p5), .val (.int (Int32.ofNat nn)), .val (.int c0), .val (.int c1), .val (.int c2), .val (.int c3), .unset, .unset, .unset, .unset, .unset, .unset, .unset, .unset, .unset, .unset] [(.int (4 : Int32))])) _
  obtain ⟨T658, h658, k658, X658, e658, E658, A658, st658⟩ := newP X657 hx hZ (hw _ (List.mem_of_getElem? (i := 5) rfl)) hh657 (g := (mkF m 34 #[.val (.int p1), .val (.int p2), .val (.int p3), .val (.int p4), .val (.int p5), .val (.int (Int32.ofNat nn)), .val (.int c0), .val (.int c1), .val (.int c2), .val (.int c3), .unset, .unset, .unset, .unset, .unset, .unset, .unset, .unset, .unset, .unset] [(.int (4 : Int32))])) rfl (hb hby at_34) rfl (by decide) (cap := 4) (by decide) (by decide) (Nat.le_of_ble_eq_true rfl) (Nat.le_of_ble_eq_true rfl)
  obtain ⟨b658, g658⟩ : ∃ z, z = h0.size := ⟨_, rfl⟩
  have ge659 : n0 ≤ b658 := Nat.le_trans Z0 (Nat.le_of_eq g658.symm)
  have sz660 : h0.size ≤ b658 := Nat.le_trans KP0.1 (Nat.le_of_eq g658.symm)
  rw [← g658] at A658 st658
  have O661 := OL.ext E658
  have KP662 := KP0.ext E658
  have Zs663 := Nat.le_trans Z0 E658.1
  have CR664 := CR0.trans (CHr.ext E658 CR0.1)
  have hk665 := Nat.le_trans hk0 E658.1
  have V666 : Arv Z h658 b658 k658 .char (4 : Int32) [(.int (0 : Int32)), (.int (0 : Int32)), (.int (0 : Int32)), (.int (0 : Int32))] (.int (0 : Int32)) := (Arv.new A658 (by decide)).pad (pad_rep [] (.int (0 : Int32)) 4)
  have sf667 := Safe.ext E658 CR0.1 (Safe.new (Nat.le_of_eq g658.symm))
  refine own_back st658 ?_
  show OwnGo p e below (T658.setTop (mkF m 36 #[.val (.int p1), .val (.int p2), .val (.int p3), .val (.int p4), .val (.int p5), .val (.int (Int32.ofNat nn)), .val (.int c0), .val (.int c1), .val (.int c2), .val (.int c3), .unset, .unset, .unset, .unset, .unset, .unset, .unset, .unset, .unset, .unset] [(.ref b658)])) _
  refine own_back (fun t k => XS.dup X658.here hx rfl (hb hby at_36) rfl rfl k) ?_
  show OwnGo p e below (T658.setTop (mkF m 37 #[.val (.int p1), .val (.int p2), .val (.int p3), .val (.int p4), .val (.int p5), .val (.int (Int32.ofNat nn)), .val (.int c0), .val (.int c1), .val (.int c2), .val (.int c3), .unset, .unset, .unset, .unset, .unset, .unset, .unset, .unset, .unset, .unset] [(.ref b658), (.ref b658)])) _
  refine own_back (fun t k => XS.iconst X658.here hx rfl (hb hby at_37) k) ?_
  show OwnGo p e below (T658.setTop (mkF m 38 #[.val (.int p1), .val (.int p2), .val (.int p3), .val (.int p4), .val (.int p5), .val (.int (Int32.ofNat nn)), .val (.int c0), .val (.int c1), .val (.int c2), .val (.int c3), .unset, .unset, .unset, .unset, .unset, .unset, .unset, .unset, .unset, .unset] [(.int (0 : Int32)), (.ref b658), (.ref b658)])) _
  refine own_back (fun t k => XS.iload X658.here hx rfl (hb hby at_38) rfl k) ?_
  show OwnGo p e below (T658.setTop (mkF m 40 #[.val (.int p1), .val (.int p2), .val (.int p3), .val (.int p4), .val (.int p5), .val (.int (Int32.ofNat nn)), .val (.int c0), .val (.int c1), .val (.int c2), .val (.int c3), .unset, .unset, .unset, .unset, .unset, .unset, .unset, .unset, .unset, .unset] [(.int c0), (.int (0 : Int32)), (.ref b658), (.ref b658)])) _
  obtain ⟨c668, A668, q668, S668, M668, H668, U668⟩ := id V666
  obtain ⟨T669, h669, X669, e669, W669, st669⟩ := stC X658 hx hZ e658 A668 (j := (0 : Int32)) (inb_of S668 ⟨by decide, by decide⟩) (g := (mkF m 40 #[.val (.int p1), .val (.int p2), .val (.int p3), .val (.int p4), .val (.int p5), .val (.int (Int32.ofNat nn)), .val (.int c0), .val (.int c1), .val (.int c2), .val (.int c3), .unset, .unset, .unset, .unset, .unset, .unset, .unset, .unset, .unset, .unset] [(.int c0), (.int (0 : Int32)), (.ref b658), (.ref b658)])) rfl rfl (hb hby at_40)
  have O670 := O661.wr W669 ge659
  have KP671 := KP662.wr W669 (Or.inr sz660)
  have Zs672 := Nat.le_trans Zs663 (Keep.of_wr W669).1
  have CR673 := CR664.trans (CHr.wr W669 sf667 CR664.1)
  have hk674 := Nat.le_trans hk665 (Keep.of_wr W669).1
  have f675 := (Safe.wr W669 sf667 CR664.1 sf667)
  have V676 : Arv Z h669 b658 k658 .char (4 : Int32) [(.int (nar .char c0)), (.int (0 : Int32)), (.int (0 : Int32)), (.int (0 : Int32))] (.int (0 : Int32)) := Arv.set A668 q668 S668 M668 H668 U668 (fits_nar_char _) W669 0 rfl (Nat.le_of_ble_eq_true rfl)
  have N677 := Fr.snoc X669 N657 ge659
  refine own_back st669 ?_
  show OwnGo p e below (T669.setTop (mkF m 41 #[.val (.int p1), .val (.int p2), .val (.int p3), .val (.int p4), .val (.int p5), .val (.int (Int32.ofNat nn)), .val (.int c0), .val (.int c1), .val (.int c2), .val (.int c3), .unset, .unset, .unset, .unset, .unset, .unset, .unset, .unset, .unset, .unset] [(.ref b658)])) _
  refine own_back (fun t k => XS.dup X669.here hx rfl (hb hby at_41) rfl rfl k) ?_
  show OwnGo p e below (T669.setTop (mkF m 42 #[.val (.int p1), .val (.int p2), .val (.int p3), .val (.int p4), .val (.int p5), .val (.int (Int32.ofNat nn)), .val (.int c0), .val (.int c1), .val (.int c2), .val (.int c3), .unset, .unset, .unset, .unset, .unset, .unset, .unset, .unset, .unset, .unset] [(.ref b658), (.ref b658)])) _
  refine own_back (fun t k => XS.iconst X669.here hx rfl (hb hby at_42) k) ?_
  show OwnGo p e below (T669.setTop (mkF m 43 #[.val (.int p1), .val (.int p2), .val (.int p3), .val (.int p4), .val (.int p5), .val (.int (Int32.ofNat nn)), .val (.int c0), .val (.int c1), .val (.int c2), .val (.int c3), .unset, .unset, .unset, .unset, .unset, .unset, .unset, .unset, .unset, .unset] [(.int (1 : Int32)), (.ref b658), (.ref b658)])) _
  refine own_back (fun t k => XS.iload X669.here hx rfl (hb hby at_43) rfl k) ?_
  show OwnGo p e below (T669.setTop (mkF m 45 #[.val (.int p1), .val (.int p2), .val (.int p3), .val (.int p4), .val (.int p5), .val (.int (Int32.ofNat nn)), .val (.int c0), .val (.int c1), .val (.int c2), .val (.int c3), .unset, .unset, .unset, .unset, .unset, .unset, .unset, .unset, .unset, .unset] [(.int c1), (.int (1 : Int32)), (.ref b658), (.ref b658)])) _
  obtain ⟨c678, A678, q678, S678, M678, H678, U678⟩ := id V676
  obtain ⟨T679, h679, X679, e679, W679, st679⟩ := stC X669 hx hZ e669 A678 (j := (1 : Int32)) (inb_of S678 ⟨by decide, by decide⟩) (g := (mkF m 45 #[.val (.int p1), .val (.int p2), .val (.int p3), .val (.int p4), .val (.int p5), .val (.int (Int32.ofNat nn)), .val (.int c0), .val (.int c1), .val (.int c2), .val (.int c3), .unset, .unset, .unset, .unset, .unset, .unset, .unset, .unset, .unset, .unset] [(.int c1), (.int (1 : Int32)), (.ref b658), (.ref b658)])) rfl rfl (hb hby at_45)
  have O680 := O670.wr W679 ge659
  have KP681 := KP671.wr W679 (Or.inr sz660)
  have Zs682 := Nat.le_trans Zs672 (Keep.of_wr W679).1
  have CR683 := CR673.trans (CHr.wr W679 f675 CR673.1)
  have hk684 := Nat.le_trans hk674 (Keep.of_wr W679).1
  have f685 := (Safe.wr W679 f675 CR673.1 f675)
  have V686 : Arv Z h679 b658 k658 .char (4 : Int32) [(.int (nar .char c0)), (.int (nar .char c1)), (.int (0 : Int32)), (.int (0 : Int32))] (.int (0 : Int32)) := Arv.set A678 q678 S678 M678 H678 U678 (fits_nar_char _) W679 1 rfl (Nat.le_of_ble_eq_true rfl)
  have N687 := Fr.snoc X679 N677 ge659
  refine own_back st679 ?_
  show OwnGo p e below (T679.setTop (mkF m 46 #[.val (.int p1), .val (.int p2), .val (.int p3), .val (.int p4), .val (.int p5), .val (.int (Int32.ofNat nn)), .val (.int c0), .val (.int c1), .val (.int c2), .val (.int c3), .unset, .unset, .unset, .unset, .unset, .unset, .unset, .unset, .unset, .unset] [(.ref b658)])) _
  refine own_back (fun t k => XS.dup X679.here hx rfl (hb hby at_46) rfl rfl k) ?_
  show OwnGo p e below (T679.setTop (mkF m 47 #[.val (.int p1), .val (.int p2), .val (.int p3), .val (.int p4), .val (.int p5), .val (.int (Int32.ofNat nn)), .val (.int c0), .val (.int c1), .val (.int c2), .val (.int c3), .unset, .unset, .unset, .unset, .unset, .unset, .unset, .unset, .unset, .unset] [(.ref b658), (.ref b658)])) _
  refine own_back (fun t k => XS.iconst X679.here hx rfl (hb hby at_47) k) ?_
  show OwnGo p e below (T679.setTop (mkF m 48 #[.val (.int p1), .val (.int p2), .val (.int p3), .val (.int p4), .val (.int p5), .val (.int (Int32.ofNat nn)), .val (.int c0), .val (.int c1), .val (.int c2), .val (.int c3), .unset, .unset, .unset, .unset, .unset, .unset, .unset, .unset, .unset, .unset] [(.int (2 : Int32)), (.ref b658), (.ref b658)])) _
  refine own_back (fun t k => XS.iload X679.here hx rfl (hb hby at_48) rfl k) ?_
  show OwnGo p e below (T679.setTop (mkF m 50 #[.val (.int p1), .val (.int p2), .val (.int p3), .val (.int p4), .val (.int p5), .val (.int (Int32.ofNat nn)), .val (.int c0), .val (.int c1), .val (.int c2), .val (.int c3), .unset, .unset, .unset, .unset, .unset, .unset, .unset, .unset, .unset, .unset] [(.int c2), (.int (2 : Int32)), (.ref b658), (.ref b658)])) _
  obtain ⟨c688, A688, q688, S688, M688, H688, U688⟩ := id V686
  obtain ⟨T689, h689, X689, e689, W689, st689⟩ := stC X679 hx hZ e679 A688 (j := (2 : Int32)) (inb_of S688 ⟨by decide, by decide⟩) (g := (mkF m 50 #[.val (.int p1), .val (.int p2), .val (.int p3), .val (.int p4), .val (.int p5), .val (.int (Int32.ofNat nn)), .val (.int c0), .val (.int c1), .val (.int c2), .val (.int c3), .unset, .unset, .unset, .unset, .unset, .unset, .unset, .unset, .unset, .unset] [(.int c2), (.int (2 : Int32)), (.ref b658), (.ref b658)])) rfl rfl (hb hby at_50)
  have O690 := O680.wr W689 ge659
  have KP691 := KP681.wr W689 (Or.inr sz660)
  have Zs692 := Nat.le_trans Zs682 (Keep.of_wr W689).1
  have CR693 := CR683.trans (CHr.wr W689 f685 CR683.1)
  have hk694 := Nat.le_trans hk684 (Keep.of_wr W689).1
  have f695 := (Safe.wr W689 f685 CR683.1 f685)
  have V696 : Arv Z h689 b658 k658 .char (4 : Int32) [(.int (nar .char c0)), (.int (nar .char c1)), (.int (nar .char c2)), (.int (0 : Int32))] (.int (0 : Int32)) := Arv.set A688 q688 S688 M688 H688 U688 (fits_nar_char _) W689 2 rfl (Nat.le_of_ble_eq_true rfl)
  have N697 := Fr.snoc X689 N687 ge659
  refine own_back st689 ?_
  show OwnGo p e below (T689.setTop (mkF m 51 #[.val (.int p1), .val (.int p2), .val (.int p3), .val (.int p4), .val (.int p5), .val (.int (Int32.ofNat nn)), .val (.int c0), .val (.int c1), .val (.int c2), .val (.int c3), .unset, .unset, .unset, .unset, .unset, .unset, .unset, .unset, .unset, .unset] [(.ref b658)])) _
  refine own_back (fun t k => XS.dup X689.here hx rfl (hb hby at_51) rfl rfl k) ?_
  show OwnGo p e below (T689.setTop (mkF m 52 #[.val (.int p1), .val (.int p2), .val (.int p3), .val (.int p4), .val (.int p5), .val (.int (Int32.ofNat nn)), .val (.int c0), .val (.int c1), .val (.int c2), .val (.int c3), .unset, .unset, .unset, .unset, .unset, .unset, .unset, .unset, .unset, .unset] [(.ref b658), (.ref b658)])) _
  refine own_back (fun t k => XS.iconst X689.here hx rfl (hb hby at_52) k) ?_
  show OwnGo p e below (T689.setTop (mkF m 53 #[.val (.int p1), .val (.int p2), .val (.int p3), .val (.int p4), .val (.int p5), .val (.int (Int32.ofNat nn)), .val (.int c0), .val (.int c1), .val (.int c2), .val (.int c3), .unset, .unset, .unset, .unset, .unset, .unset, .unset, .unset, .unset, .unset] [(.int (3 : Int32)), (.ref b658), (.ref b658)])) _
  refine own_back (fun t k => XS.iload X689.here hx rfl (hb hby at_53) rfl k) ?_
  show OwnGo p e below (T689.setTop (mkF m 55 #[.val (.int p1), .val (.int p2), .val (.int p3), .val (.int p4), .val (.int p5), .val (.int (Int32.ofNat nn)), .val (.int c0), .val (.int c1), .val (.int c2), .val (.int c3), .unset, .unset, .unset, .unset, .unset, .unset, .unset, .unset, .unset, .unset] [(.int c3), (.int (3 : Int32)), (.ref b658), (.ref b658)])) _
  obtain ⟨c698, A698, q698, S698, M698, H698, U698⟩ := id V696
  obtain ⟨T699, h699, X699, e699, W699, st699⟩ := stC X689 hx hZ e689 A698 (j := (3 : Int32)) (inb_of S698 ⟨by decide, by decide⟩) (g := (mkF m 55 #[.val (.int p1), .val (.int p2), .val (.int p3), .val (.int p4), .val (.int p5), .val (.int (Int32.ofNat nn)), .val (.int c0), .val (.int c1), .val (.int c2), .val (.int c3), .unset, .unset, .unset, .unset, .unset, .unset, .unset, .unset, .unset, .unset] [(.int c3), (.int (3 : Int32)), (.ref b658), (.ref b658)])) rfl rfl (hb hby at_55)
  have O700 := O690.wr W699 ge659
  have KP701 := KP691.wr W699 (Or.inr sz660)
  have Zs702 := Nat.le_trans Zs692 (Keep.of_wr W699).1
  have CR703 := CR693.trans (CHr.wr W699 f695 CR693.1)
  have hk704 := Nat.le_trans hk694 (Keep.of_wr W699).1
  have f705 := (Safe.wr W699 f695 CR693.1 f695)
  have V706 : Arv Z h699 b658 k658 .char (4 : Int32) [(.int (nar .char c0)), (.int (nar .char c1)), (.int (nar .char c2)), (.int (nar .char c3))] (.int (0 : Int32)) := Arv.set A698 q698 S698 M698 H698 U698 (fits_nar_char _) W699 3 rfl (Nat.le_of_ble_eq_true rfl)
  have N707 := Fr.snoc X699 N697 ge659
  refine own_back st699 ?_
  show OwnGo p e below (T699.setTop (mkF m 56 #[.val (.int p1), .val (.int p2), .val (.int p3), .val (.int p4), .val (.int p5), .val (.int (Int32.ofNat nn)), .val (.int c0), .val (.int c1), .val (.int c2), .val (.int c3), .unset, .unset, .unset, .unset, .unset, .unset, .unset, .unset, .unset, .unset] [(.ref b658)])) _
  refine own_back (fun t k => XS.astore X699.here hx rfl (hb hby at_56) rfl rfl (l' := #[.val (.int p1), .val (.int p2), .val (.int p3), .val (.int p4), .val (.int p5), .val (.int (Int32.ofNat nn)), .val (.int c0), .val (.int c1), .val (.int c2), .val (.int c3), .val (.ref b658), .unset, .unset, .unset, .unset, .unset, .unset, .unset, .unset, .unset]) rfl k) ?_
  show OwnGo p e below (T699.setTop (mkF m 58 #[.val (.int p1), .val (.int p2), .val (.int p3), .val (.int p4), .val (.int p5), .val (.int (Int32.ofNat nn)), .val (.int c0), .val (.int c1), .val (.int c2), .val (.int c3), .val (.ref b658), .unset, .unset, .unset, .unset, .unset, .unset, .unset, .unset, .unset] [])) _
  refine own_back (fun t k => XS.iload X699.here hx rfl (hb hby at_58) rfl k) ?_
  show OwnGo p e below (T699.setTop (mkF m 60 #[.val (.int p1), .val (.int p2), .val (.int p3), .val (.int p4), .val (.int p5), .val (.int (Int32.ofNat nn)), .val (.int c0), .val (.int c1), .val (.int c2), .val (.int c3), .val (.ref b658), .unset, .unset, .unset, .unset, .unset, .unset, .unset, .unset, .unset] [(.int (Int32.ofNat nn))])) _
  refine own_back (fun t k => XS.iload X699.here hx rfl (hb hby at_60) rfl k) ?_
  show OwnGo p e below (T699.setTop (mkF m 62 #[.val (.int p1), .val (.int p2), .val (.int p3), .val (.int p4), .val (.int p5), .val (.int (Int32.ofNat nn)), .val (.int c0), .val (.int c1), .val (.int c2), .val (.int c3), .val (.ref b658), .unset, .unset, .unset, .unset, .unset, .unset, .unset, .unset, .unset] [(.int c0), (.int (Int32.ofNat nn))])) _
  refine own_back (fun t k => XS.iload X699.here hx rfl (hb hby at_62) rfl k) ?_
  show OwnGo p e below (T699.setTop (mkF m 64 #[.val (.int p1), .val (.int p2), .val (.int p3), .val (.int p4), .val (.int p5), .val (.int (Int32.ofNat nn)), .val (.int c0), .val (.int c1), .val (.int c2), .val (.int c3), .val (.ref b658), .unset, .unset, .unset, .unset, .unset, .unset, .unset, .unset, .unset] [(.int c1), (.int c0), (.int (Int32.ofNat nn))])) _
  refine own_back (fun t k => XS.iload X699.here hx rfl (hb hby at_64) rfl k) ?_
  show OwnGo p e below (T699.setTop (mkF m 66 #[.val (.int p1), .val (.int p2), .val (.int p3), .val (.int p4), .val (.int p5), .val (.int (Int32.ofNat nn)), .val (.int c0), .val (.int c1), .val (.int c2), .val (.int c3), .val (.ref b658), .unset, .unset, .unset, .unset, .unset, .unset, .unset, .unset, .unset] [(.int c2), (.int c1), (.int c0), (.int (Int32.ofNat nn))])) _
  refine own_back (fun t k => XS.iload X699.here hx rfl (hb hby at_66) rfl k) ?_
  show OwnGo p e below (T699.setTop (mkF m 68 #[.val (.int p1), .val (.int p2), .val (.int p3), .val (.int p4), .val (.int p5), .val (.int (Int32.ofNat nn)), .val (.int c0), .val (.int c1), .val (.int c2), .val (.int c3), .val (.ref b658), .unset, .unset, .unset, .unset, .unset, .unset, .unset, .unset, .unset] [(.int c3), (.int c2), (.int c1), (.int c0), (.int (Int32.ofNat nn))])) _
  obtain ⟨_, _, ⟨T708, L708, k708, n708⟩, -, X708, hSn708, hgr708, ⟨Lc708, hQ708, l708, y708, z708, CRn708⟩, st708⟩ := callSS X699 hx (y := (⟨"com/example/kerbline/kerbline/InputFileTrimBlanksPinLaw", "make", "(ICCCC)Ljava/lang/String;"⟩ : MethodName)) hown (mvT hZ (hw _ (List.mem_of_getElem? (i := 6) rfl))) (mvT hZ (hw _ (List.mem_of_getElem? (i := 7) rfl))) (mvT hZ (hw _ (List.mem_of_getElem? (i := 3) rfl))) (mvT hZ (hw _ (List.mem_of_getElem? (i := 8) rfl))) (by decide) (own_backH (W := 0) (rm_make l Z a0 hw [] nn c0 c1 c2 c3 cz h699 n0 Zs702 O700 hn r0 r1 r2 r3 SC hcz) hZ (hw _ (List.mem_of_getElem? (i := 8) rfl)) (hw _ (List.mem_of_getElem? (i := 3) rfl)) (by decide) (by decide) hEL CR703.1 sf0 all0) (g := (mkF m 68 #[.val (.int p1), .val (.int p2), .val (.int p3), .val (.int p4), .val (.int p5), .val (.int (Int32.ofNat nn)), .val (.int c0), .val (.int c1), .val (.int c2), .val (.int c3), .val (.ref b658), .unset, .unset, .unset, .unset, .unset, .unset, .unset, .unset, .unset] [(.int c3), (.int c2), (.int c1), (.int c0), (.int (Int32.ofNat nn))])) rfl (by rw [hml]; rfl) (argsL := [(.int (Int32.ofNat nn)), (.int c0), (.int c1), (.int c2), (.int c3)]) (rest := []) (lenOf lw_pd1 rfl) rfl (by show 2 * 0 + _ ≤ _; exact Nat.le_of_eq rfl) (hb hby at_68) (fun _ _ => ⟨rfl, e699, Nat.le_of_ble_eq_true rfl, Nat.le_of_ble_eq_true rfl⟩)
  dsimp only [Pt.U, Pt.locs, Pt.cells, Pt.slots] at X708 l708 y708 z708 st708 hQ708 hSn708 hgr708 CRn708
  subst l708 y708 z708
  obtain ⟨Xr708, hSr708, hZr708, hownr708⟩ := rebS hS0 (own_hle e699 hk704) X708 hSn708 hgr708 hZ hown
  obtain ⟨am708, rfl, N708q, E708, B708⟩ := hQ708
  refine own_seq st708 ?_
  have N708 := Fr.app N707 N708q
  have O709 := O700.ext E708
  have KP710 := KP701.ext E708
  have Zs711 := Nat.le_trans Zs702 E708.1
  have CR712 := CR703.trans CRn708
  have f713 := (CRn708.safe V706.lt f705)
  have f714 := V706.ext E708
  show OwnGo p e below (T708.setTop (mkF m 71 #[.val (.int p1), .val (.int p2), .val (.int p3), .val (.int p4), .val (.int p5), .val (.int (Int32.ofNat nn)), .val (.int c0), .val (.int c1), .val (.int c2), .val (.int c3), .val (.ref b658), .unset, .unset, .unset, .unset, .unset, .unset, .unset, .unset, .unset] [(.ref am708)])) _
  refine own_back (fun t k => XS.astore Xr708.here hx rfl (hb hby at_71) rfl rfl (l' := #[.val (.int p1), .val (.int p2), .val (.int p3), .val (.int p4), .val (.int p5), .val (.int (Int32.ofNat nn)), .val (.int c0), .val (.int c1), .val (.int c2), .val (.int c3), .val (.ref b658), .val (.ref am708), .unset, .unset, .unset, .unset, .unset, .unset, .unset, .unset]) rfl k) ?_
  show OwnGo p e below (T708.setTop (mkF m 73 #[.val (.int p1), .val (.int p2), .val (.int p3), .val (.int p4), .val (.int p5), .val (.int (Int32.ofNat nn)), .val (.int c0), .val (.int c1), .val (.int c2), .val (.int c3), .val (.ref b658), .val (.ref am708), .unset, .unset, .unset, .unset, .unset, .unset, .unset, .unset] [])) _
  have tl91_715 : ∀ (Tj715 : State) (hj715 : Heap) (k0 : Int32), OwnSt p l e room_1 s m #[(.int p1), (.int p2), (.int p3), (.int p4), (.int p5)] below meth c Z own_EL "com/example/kerbline/kerbline/InputFileTrimBlanksPinLaw" n0 h0 [] Tj715 hj715 7 16 → (OwnStr Z hj715 am708 (own_L nn c0 c1 c2 c3)) → (Arv Z hj715 b658 k658 .char (4 : Int32) [(.int (nar .char c0)), (.int (nar .char c1)), (.int (nar .char c2)), (.int (nar .char c3))] (.int (0 : Int32))) → (k0 = (if 0 < nn ∧ ¬ own_bl c0 then (1 : Int32) else 0)) → OwnGo p e below (Tj715.setTop (mkF m 91 #[.val (.int p1), .val (.int p2), .val (.int p3), .val (.int p4), .val (.int p5), .val (.int (Int32.ofNat nn)), .val (.int c0), .val (.int c1), .val (.int c2), .val (.int c3), .val (.ref b658), .val (.ref am708), .unset, .unset, .unset, .unset, .unset, .unset, .unset, .unset] [(.int k0)])) (OwnEndW Z own_EL s (fun v h L => v = some (.int 1) ∧ Fr n0 L) room_1.cells room_1.slots) := by
    intro Tj715 hj715 k0 HS715 hs715_0 hs715_1 hk0
    obtain ⟨vj715, kj715, Lj715, Xj715, ej715, hSj715, hkj715, hZj715, hownj715, CRj715, Oj715, KPj715, Zj715, Nj715⟩ := HS715
    show OwnGo p e below (Tj715.setTop (mkF m 91 #[.val (.int p1), .val (.int p2), .val (.int p3), .val (.int p4), .val (.int p5), .val (.int (Int32.ofNat nn)), .val (.int c0), .val (.int c1), .val (.int c2), .val (.int c3), .val (.ref b658), .val (.ref am708), .unset, .unset, .unset, .unset, .unset, .unset, .unset, .unset] [(.int k0)])) _
    refine own_back (fun t k => XS.istore Xj715.here hx rfl (hb hby at_91) rfl (l' := #[.val (.int p1), .val (.int p2), .val (.int p3), .val (.int p4), .val (.int p5), .val (.int (Int32.ofNat nn)), .val (.int c0), .val (.int c1), .val (.int c2), .val (.int c3), .val (.ref b658), .val (.ref am708), .val (.int k0), .unset, .unset, .unset, .unset, .unset, .unset, .unset]) rfl k) ?_
    show OwnGo p e below (Tj715.setTop (mkF m 93 #[.val (.int p1), .val (.int p2), .val (.int p3), .val (.int p4), .val (.int p5), .val (.int (Int32.ofNat nn)), .val (.int c0), .val (.int c1), .val (.int c2), .val (.int c3), .val (.ref b658), .val (.ref am708), .val (.int k0), .unset, .unset, .unset, .unset, .unset, .unset, .unset] [])) _
    have tl112_716 : ∀ (Tj716 : State) (hj716 : Heap) (k1 : Int32), OwnSt p l e room_1 s m #[(.int p1), (.int p2), (.int p3), (.int p4), (.int p5)] below meth c Z own_EL "com/example/kerbline/kerbline/InputFileTrimBlanksPinLaw" n0 h0 [] Tj716 hj716 7 16 → (OwnStr Z hj716 am708 (own_L nn c0 c1 c2 c3)) → (Arv Z hj716 b658 k658 .char (4 : Int32) [(.int (nar .char c0)), (.int (nar .char c1)), (.int (nar .char c2)), (.int (nar .char c3))] (.int (0 : Int32))) → (k1 = (if 1 < nn ∧ ¬ own_bl c1 then (1 : Int32) else 0)) → OwnGo p e below (Tj716.setTop (mkF m 112 #[.val (.int p1), .val (.int p2), .val (.int p3), .val (.int p4), .val (.int p5), .val (.int (Int32.ofNat nn)), .val (.int c0), .val (.int c1), .val (.int c2), .val (.int c3), .val (.ref b658), .val (.ref am708), .val (.int k0), .unset, .unset, .unset, .unset, .unset, .unset, .unset] [(.int k1)])) (OwnEndW Z own_EL s (fun v h L => v = some (.int 1) ∧ Fr n0 L) room_1.cells room_1.slots) := by
      intro Tj716 hj716 k1 HS716 hs716_0 hs716_1 hk1
      obtain ⟨vj716, kj716, Lj716, Xj716, ej716, hSj716, hkj716, hZj716, hownj716, CRj716, Oj716, KPj716, Zj716, Nj716⟩ := HS716
      show OwnGo p e below (Tj716.setTop (mkF m 112 #[.val (.int p1), .val (.int p2), .val (.int p3), .val (.int p4), .val (.int p5), .val (.int (Int32.ofNat nn)), .val (.int c0), .val (.int c1), .val (.int c2), .val (.int c3), .val (.ref b658), .val (.ref am708), .val (.int k0), .unset, .unset, .unset, .unset, .unset, .unset, .unset] [(.int k1)])) _
      refine own_back (fun t k => XS.istore Xj716.here hx rfl (hb hby at_112) rfl (l' := #[.val (.int p1), .val (.int p2), .val (.int p3), .val (.int p4), .val (.int p5), .val (.int (Int32.ofNat nn)), .val (.int c0), .val (.int c1), .val (.int c2), .val (.int c3), .val (.ref b658), .val (.ref am708), .val (.int k0), .val (.int k1), .unset, .unset, .unset, .unset, .unset, .unset]) rfl k) ?_
      show OwnGo p e below (Tj716.setTop (mkF m 114 #[.val (.int p1), .val (.int p2), .val (.int p3), .val (.int p4), .val (.int p5), .val (.int (Int32.ofNat nn)), .val (.int c0), .val (.int c1), .val (.int c2), .val (.int c3), .val (.ref b658), .val (.ref am708), .val (.int k0), .val (.int k1), .unset, .unset, .unset, .unset, .unset, .unset] [])) _
      have tl133_717 : ∀ (Tj717 : State) (hj717 : Heap) (k2 : Int32), OwnSt p l e room_1 s m #[(.int p1), (.int p2), (.int p3), (.int p4), (.int p5)] below meth c Z own_EL "com/example/kerbline/kerbline/InputFileTrimBlanksPinLaw" n0 h0 [] Tj717 hj717 7 16 → (OwnStr Z hj717 am708 (own_L nn c0 c1 c2 c3)) → (Arv Z hj717 b658 k658 .char (4 : Int32) [(.int (nar .char c0)), (.int (nar .char c1)), (.int (nar .char c2)), (.int (nar .char c3))] (.int (0 : Int32))) → (k2 = (if 2 < nn ∧ ¬ own_bl c2 then (1 : Int32) else 0)) → OwnGo p e below (Tj717.setTop (mkF m 133 #[.val (.int p1), .val (.int p2), .val (.int p3), .val (.int p4), .val (.int p5), .val (.int (Int32.ofNat nn)), .val (.int c0), .val (.int c1), .val (.int c2), .val (.int c3), .val (.ref b658), .val (.ref am708), .val (.int k0), .val (.int k1), .unset, .unset, .unset, .unset, .unset, .unset] [(.int k2)])) (OwnEndW Z own_EL s (fun v h L => v = some (.int 1) ∧ Fr n0 L) room_1.cells room_1.slots) := by
        intro Tj717 hj717 k2 HS717 hs717_0 hs717_1 hk2
        obtain ⟨vj717, kj717, Lj717, Xj717, ej717, hSj717, hkj717, hZj717, hownj717, CRj717, Oj717, KPj717, Zj717, Nj717⟩ := HS717
        show OwnGo p e below (Tj717.setTop (mkF m 133 #[.val (.int p1), .val (.int p2), .val (.int p3), .val (.int p4), .val (.int p5), .val (.int (Int32.ofNat nn)), .val (.int c0), .val (.int c1), .val (.int c2), .val (.int c3), .val (.ref b658), .val (.ref am708), .val (.int k0), .val (.int k1), .unset, .unset, .unset, .unset, .unset, .unset] [(.int k2)])) _
        refine own_back (fun t k => XS.istore Xj717.here hx rfl (hb hby at_133) rfl (l' := #[.val (.int p1), .val (.int p2), .val (.int p3), .val (.int p4), .val (.int p5), .val (.int (Int32.ofNat nn)), .val (.int c0), .val (.int c1), .val (.int c2), .val (.int c3), .val (.ref b658), .val (.ref am708), .val (.int k0), .val (.int k1), .val (.int k2), .unset, .unset, .unset, .unset, .unset]) rfl k) ?_
        show OwnGo p e below (Tj717.setTop (mkF m 135 #[.val (.int p1), .val (.int p2), .val (.int p3), .val (.int p4), .val (.int p5), .val (.int (Int32.ofNat nn)), .val (.int c0), .val (.int c1), .val (.int c2), .val (.int c3), .val (.ref b658), .val (.ref am708), .val (.int k0), .val (.int k1), .val (.int k2), .unset, .unset, .unset, .unset, .unset] [])) _
        have tl154_718 : ∀ (Tj718 : State) (hj718 : Heap) (k3 : Int32), OwnSt p l e room_1 s m #[(.int p1), (.int p2), (.int p3), (.int p4), (.int p5)] below meth c Z own_EL "com/example/kerbline/kerbline/InputFileTrimBlanksPinLaw" n0 h0 [] Tj718 hj718 7 16 → (OwnStr Z hj718 am708 (own_L nn c0 c1 c2 c3)) → (Arv Z hj718 b658 k658 .char (4 : Int32) [(.int (nar .char c0)), (.int (nar .char c1)), (.int (nar .char c2)), (.int (nar .char c3))] (.int (0 : Int32))) → (k3 = (if 3 < nn ∧ ¬ own_bl c3 then (1 : Int32) else 0)) → OwnGo p e below (Tj718.setTop (mkF m 154 #[.val (.int p1), .val (.int p2), .val (.int p3), .val (.int p4), .val (.int p5), .val (.int (Int32.ofNat nn)), .val (.int c0), .val (.int c1), .val (.int c2), .val (.int c3), .val (.ref b658), .val (.ref am708), .val (.int k0), .val (.int k1), .val (.int k2), .unset, .unset, .unset, .unset, .unset] [(.int k3)])) (OwnEndW Z own_EL s (fun v h L => v = some (.int 1) ∧ Fr n0 L) room_1.cells room_1.slots) := by
          intro Tj718 hj718 k3 HS718 hs718_0 hs718_1 hk3
          obtain ⟨vj718, kj718, Lj718, Xj718, ej718, hSj718, hkj718, hZj718, hownj718, CRj718, Oj718, KPj718, Zj718, Nj718⟩ := HS718
          show OwnGo p e below (Tj718.setTop (mkF m 154 #[.val (.int p1), .val (.int p2), .val (.int p3), .val (.int p4), .val (.int p5), .val (.int (Int32.ofNat nn)), .val (.int c0), .val (.int c1), .val (.int c2), .val (.int c3), .val (.ref b658), .val (.ref am708), .val (.int k0), .val (.int k1), .val (.int k2), .unset, .unset, .unset, .unset, .unset] [(.int k3)])) _
          refine own_back (fun t k => XS.istore Xj718.here hx rfl (hb hby at_154) rfl (l' := #[.val (.int p1), .val (.int p2), .val (.int p3), .val (.int p4), .val (.int p5), .val (.int (Int32.ofNat nn)), .val (.int c0), .val (.int c1), .val (.int c2), .val (.int c3), .val (.ref b658), .val (.ref am708), .val (.int k0), .val (.int k1), .val (.int k2), .val (.int k3), .unset, .unset, .unset, .unset]) rfl k) ?_
          show OwnGo p e below (Tj718.setTop (mkF m 156 #[.val (.int p1), .val (.int p2), .val (.int p3), .val (.int p4), .val (.int p5), .val (.int (Int32.ofNat nn)), .val (.int c0), .val (.int c1), .val (.int c2), .val (.int c3), .val (.ref b658), .val (.ref am708), .val (.int k0), .val (.int k1), .val (.int k2), .val (.int k3), .unset, .unset, .unset, .unset] [])) _
          refine own_back (fun t k => XS.iload Xj718.here hx rfl (hb hby at_156) rfl k) ?_
          show OwnGo p e below (Tj718.setTop (mkF m 158 #[.val (.int p1), .val (.int p2), .val (.int p3), .val (.int p4), .val (.int p5), .val (.int (Int32.ofNat nn)), .val (.int c0), .val (.int c1), .val (.int c2), .val (.int c3), .val (.ref b658), .val (.ref am708), .val (.int k0), .val (.int k1), .val (.int k2), .val (.int k3), .unset, .unset, .unset, .unset] [(.int (Int32.ofNat nn))])) _
          refine own_back (fun t k => XS.istore Xj718.here hx rfl (hb hby at_158) rfl (l' := #[.val (.int p1), .val (.int p2), .val (.int p3), .val (.int p4), .val (.int p5), .val (.int (Int32.ofNat nn)), .val (.int c0), .val (.int c1), .val (.int c2), .val (.int c3), .val (.ref b658), .val (.ref am708), .val (.int k0), .val (.int k1), .val (.int k2), .val (.int k3), .val (.int (Int32.ofNat nn)), .unset, .unset, .unset]) rfl k) ?_
          show OwnGo p e below (Tj718.setTop (mkF m 160 #[.val (.int p1), .val (.int p2), .val (.int p3), .val (.int p4), .val (.int p5), .val (.int (Int32.ofNat nn)), .val (.int c0), .val (.int c1), .val (.int c2), .val (.int c3), .val (.ref b658), .val (.ref am708), .val (.int k0), .val (.int k1), .val (.int k2), .val (.int k3), .val (.int (Int32.ofNat nn)), .unset, .unset, .unset] [])) _
          have tl228_719 : ∀ (Tj719 : State) (hj719 : Heap) (su : Nat) (eu : Nat), OwnSt p l e room_1 s m #[(.int p1), (.int p2), (.int p3), (.int p4), (.int p5)] below meth c Z own_EL "com/example/kerbline/kerbline/InputFileTrimBlanksPinLaw" n0 h0 [] Tj719 hj719 7 16 → (OwnStr Z hj719 am708 (own_L nn c0 c1 c2 c3)) → (Arv Z hj719 b658 k658 .char (4 : Int32) [(.int (nar .char c0)), (.int (nar .char c1)), (.int (nar .char c2)), (.int (nar .char c3))] (.int (0 : Int32))) → (∀ q, q < su → own_bl (own_ch ((own_L nn c0 c1 c2 c3).getD q 0))) → (su < nn → ¬ own_bl (own_ch ((own_L nn c0 c1 c2 c3).getD su 0))) → (∀ q, eu ≤ q → q < nn → own_bl (own_ch ((own_L nn c0 c1 c2 c3).getD q 0))) → (su < eu → ¬ own_bl (own_ch ((own_L nn c0 c1 c2 c3).getD (eu - 1) 0))) → (su ≤ eu) → (eu ≤ nn) → OwnGo p e below (Tj719.setTop (mkF m 228 #[.val (.int p1), .val (.int p2), .val (.int p3), .val (.int p4), .val (.int p5), .val (.int (Int32.ofNat nn)), .val (.int c0), .val (.int c1), .val (.int c2), .val (.int c3), .val (.ref b658), .val (.ref am708), .val (.int k0), .val (.int k1), .val (.int k2), .val (.int k3), .val (.int (Int32.ofNat su)), .val (.int (Int32.ofNat eu)), .unset, .unset] [])) (OwnEndW Z own_EL s (fun v h L => v = some (.int 1) ∧ Fr n0 L) room_1.cells room_1.slots) := by
            intro Tj719 hj719 su eu HS719 hs719_0 hs719_1 hA hB hC hD hse hel
            obtain ⟨vj719, kj719, Lj719, Xj719, ej719, hSj719, hkj719, hZj719, hownj719, CRj719, Oj719, KPj719, Zj719, Nj719⟩ := HS719
            show OwnGo p e below (Tj719.setTop (mkF m 228 #[.val (.int p1), .val (.int p2), .val (.int p3), .val (.int p4), .val (.int p5), .val (.int (Int32.ofNat nn)), .val (.int c0), .val (.int c1), .val (.int c2), .val (.int c3), .val (.ref b658), .val (.ref am708), .val (.int k0), .val (.int k1), .val (.int k2), .val (.int k3), .val (.int (Int32.ofNat su)), .val (.int (Int32.ofNat eu)), .unset, .unset] [])) _
            refine own_back (fun t k => XS.aload Xj719.here hx rfl (hb hby at_228) rfl rfl k) ?_
            show OwnGo p e below (Tj719.setTop (mkF m 230 #[.val (.int p1), .val (.int p2), .val (.int p3), .val (.int p4), .val (.int p5), .val (.int (Int32.ofNat nn)), .val (.int c0), .val (.int c1), .val (.int c2), .val (.int c3), .val (.ref b658), .val (.ref am708), .val (.int k0), .val (.int k1), .val (.int k2), .val (.int k3), .val (.int (Int32.ofNat su)), .val (.int (Int32.ofNat eu)), .unset, .unset] [(.ref am708)])) _
            have hbl := own_bll c0 c1 c2 c3 hn
            obtain ⟨_, _, ⟨T720, L720, k720, n720⟩, -, X720, hSn720, hgr720, ⟨Lc720, hQ720, l720, y720, z720, CRn720⟩, st720⟩ := callSS Xj719 hx (y := (⟨"com/example/kerbline/kerbline/InputFile", "trimBlanks", "(Ljava/lang/String;)Ljava/lang/String;"⟩ : MethodName)) hownj719 (mvT hZj719 (hw _ (List.mem_of_getElem? (i := 30) rfl))) (mvT hZj719 (hw _ (List.mem_of_getElem? (i := 31) rfl))) (mvT hZj719 (hw _ (List.mem_of_getElem? (i := 32) rfl))) (mvT hZj719 (hw _ (List.mem_of_getElem? (i := 33) rfl))) (by decide) (own_backH (W := 0) (rm_trim l Z a0 hw [] am708 (own_L nn c0 c1 c2 c3) su eu cz fm hj719 n0 Zj719 Oj719 hs719_0 hA (by rw [hbl]; exact hB) (by rw [hbl]; exact hC) hD hse (by omega) (by omega) SC hcz SO hfm) hZj719 (hw _ (List.mem_of_getElem? (i := 33) rfl)) (hw _ (List.mem_of_getElem? (i := 32) rfl)) (by decide) (by decide) hEL CRj719.1 sf0 all0) (g := (mkF m 230 #[.val (.int p1), .val (.int p2), .val (.int p3), .val (.int p4), .val (.int p5), .val (.int (Int32.ofNat nn)), .val (.int c0), .val (.int c1), .val (.int c2), .val (.int c3), .val (.ref b658), .val (.ref am708), .val (.int k0), .val (.int k1), .val (.int k2), .val (.int k3), .val (.int (Int32.ofNat su)), .val (.int (Int32.ofNat eu)), .unset, .unset] [(.ref am708)])) rfl (by rw [hml]; rfl) (argsL := [(.ref am708)]) (rest := []) (lenOf lw_pd2 rfl) rfl (by show 2 * 0 + _ ≤ _; exact Nat.le_of_eq rfl) (hb hby at_230) (fun _ _ => ⟨rfl, ej719, Nat.le_of_ble_eq_true rfl, Nat.le_of_ble_eq_true rfl⟩)
            dsimp only [Pt.U, Pt.locs, Pt.cells, Pt.slots] at X720 l720 y720 z720 st720 hQ720 hSn720 hgr720 CRn720
            subst l720 y720 z720
            obtain ⟨Xr720, hSr720, hZr720, hownr720⟩ := rebS hSj719 (own_hle ej719 hkj719) X720 hSn720 hgr720 hZj719 hownj719
            obtain ⟨at720, rfl, N720q, E720, B720⟩ := hQ720
            refine own_seq st720 ?_
            have N720 := Fr.app Nj719 N720q
            have O721 := Oj719.ext E720
            have KP722 := KPj719.ext E720
            have Zs723 := Nat.le_trans Zj719 E720.1
            have CR724 := CRj719.trans CRn720
            have f725 := hs719_0.ext E720
            have f726 := hs719_1.ext E720
            show OwnGo p e below (T720.setTop (mkF m 233 #[.val (.int p1), .val (.int p2), .val (.int p3), .val (.int p4), .val (.int p5), .val (.int (Int32.ofNat nn)), .val (.int c0), .val (.int c1), .val (.int c2), .val (.int c3), .val (.ref b658), .val (.ref am708), .val (.int k0), .val (.int k1), .val (.int k2), .val (.int k3), .val (.int (Int32.ofNat su)), .val (.int (Int32.ofNat eu)), .unset, .unset] [(.ref at720)])) _
            refine own_back (fun t k => XS.astore Xr720.here hx rfl (hb hby at_233) rfl rfl (l' := #[.val (.int p1), .val (.int p2), .val (.int p3), .val (.int p4), .val (.int p5), .val (.int (Int32.ofNat nn)), .val (.int c0), .val (.int c1), .val (.int c2), .val (.int c3), .val (.ref b658), .val (.ref am708), .val (.int k0), .val (.int k1), .val (.int k2), .val (.int k3), .val (.int (Int32.ofNat su)), .val (.int (Int32.ofNat eu)), .val (.ref at720), .unset]) rfl k) ?_
            show OwnGo p e below (T720.setTop (mkF m 235 #[.val (.int p1), .val (.int p2), .val (.int p3), .val (.int p4), .val (.int p5), .val (.int (Int32.ofNat nn)), .val (.int c0), .val (.int c1), .val (.int c2), .val (.int c3), .val (.ref b658), .val (.ref am708), .val (.int k0), .val (.int k1), .val (.int k2), .val (.int k3), .val (.int (Int32.ofNat su)), .val (.int (Int32.ofNat eu)), .val (.ref at720), .unset] [])) _
            refine own_back (fun t k => XS.aload Xr720.here hx rfl (hb hby at_235) rfl rfl k) ?_
            show OwnGo p e below (T720.setTop (mkF m 237 #[.val (.int p1), .val (.int p2), .val (.int p3), .val (.int p4), .val (.int p5), .val (.int (Int32.ofNat nn)), .val (.int c0), .val (.int c1), .val (.int c2), .val (.int c3), .val (.ref b658), .val (.ref am708), .val (.int k0), .val (.int k1), .val (.int k2), .val (.int k3), .val (.int (Int32.ofNat su)), .val (.int (Int32.ofNat eu)), .val (.ref at720), .unset] [(.ref at720)])) _
            refine own_back (fun t k => XS.ifnonnullYes Xr720.here hx rfl (pc0 := 237) (pc' := 242) rfl (hb hby at_237) rfl (by decide) (by decide) k) ?_
            show OwnGo p e below (T720.setTop (mkF m 242 #[.val (.int p1), .val (.int p2), .val (.int p3), .val (.int p4), .val (.int p5), .val (.int (Int32.ofNat nn)), .val (.int c0), .val (.int c1), .val (.int c2), .val (.int c3), .val (.ref b658), .val (.ref am708), .val (.int k0), .val (.int k1), .val (.int k2), .val (.int k3), .val (.int (Int32.ofNat su)), .val (.int (Int32.ofNat eu)), .val (.ref at720), .unset] [])) _
            refine own_back (fun t k => XS.iload Xr720.here hx rfl (hb hby at_242) rfl k) ?_
            show OwnGo p e below (T720.setTop (mkF m 244 #[.val (.int p1), .val (.int p2), .val (.int p3), .val (.int p4), .val (.int p5), .val (.int (Int32.ofNat nn)), .val (.int c0), .val (.int c1), .val (.int c2), .val (.int c3), .val (.ref b658), .val (.ref am708), .val (.int k0), .val (.int k1), .val (.int k2), .val (.int k3), .val (.int (Int32.ofNat su)), .val (.int (Int32.ofNat eu)), .val (.ref at720), .unset] [(.int (Int32.ofNat eu))])) _
            refine own_back (fun t k => XS.iload Xr720.here hx rfl (hb hby at_244) rfl k) ?_
            show OwnGo p e below (T720.setTop (mkF m 246 #[.val (.int p1), .val (.int p2), .val (.int p3), .val (.int p4), .val (.int p5), .val (.int (Int32.ofNat nn)), .val (.int c0), .val (.int c1), .val (.int c2), .val (.int c3), .val (.ref b658), .val (.ref am708), .val (.int k0), .val (.int k1), .val (.int k2), .val (.int k3), .val (.int (Int32.ofNat su)), .val (.int (Int32.ofNat eu)), .val (.ref at720), .unset] [(.int (Int32.ofNat su)), (.int (Int32.ofNat eu))])) _
            refine own_back (fun t k => XS.isub Xr720.here hx rfl (hb hby at_246) rfl k) ?_
            show OwnGo p e below (T720.setTop (mkF m 247 #[.val (.int p1), .val (.int p2), .val (.int p3), .val (.int p4), .val (.int p5), .val (.int (Int32.ofNat nn)), .val (.int c0), .val (.int c1), .val (.int c2), .val (.int c3), .val (.ref b658), .val (.ref am708), .val (.int k0), .val (.int k1), .val (.int k2), .val (.int k3), .val (.int (Int32.ofNat su)), .val (.int (Int32.ofNat eu)), .val (.ref at720), .unset] [(.int ((Int32.ofNat eu) - (Int32.ofNat su)))])) _
            rw [own_subi hse]
            rcases own_le4 (eu - su) (by omega) with hm | hm | hm | hm | hm
            · rw [show (Int32.ofNat (eu - su)) = (0 : Int32) from congrArg Int32.ofNat hm]
              show OwnGo p e below (T720.setTop (mkF m 247 #[.val (.int p1), .val (.int p2), .val (.int p3), .val (.int p4), .val (.int p5), .val (.int (Int32.ofNat nn)), .val (.int c0), .val (.int c1), .val (.int c2), .val (.int c3), .val (.ref b658), .val (.ref am708), .val (.int k0), .val (.int k1), .val (.int k2), .val (.int k3), .val (.int (Int32.ofNat su)), .val (.int (Int32.ofNat eu)), .val (.ref at720), .unset] [(.int (0 : Int32))])) _
              refine own_back (fun t k => XS.istore Xr720.here hx rfl (hb hby at_247) rfl (l' := #[.val (.int p1), .val (.int p2), .val (.int p3), .val (.int p4), .val (.int p5), .val (.int (Int32.ofNat nn)), .val (.int c0), .val (.int c1), .val (.int c2), .val (.int c3), .val (.ref b658), .val (.ref am708), .val (.int k0), .val (.int k1), .val (.int k2), .val (.int k3), .val (.int (Int32.ofNat su)), .val (.int (Int32.ofNat eu)), .val (.ref at720), .val (.int (0 : Int32))]) rfl k) ?_
              show OwnGo p e below (T720.setTop (mkF m 249 #[.val (.int p1), .val (.int p2), .val (.int p3), .val (.int p4), .val (.int p5), .val (.int (Int32.ofNat nn)), .val (.int c0), .val (.int c1), .val (.int c2), .val (.int c3), .val (.ref b658), .val (.ref am708), .val (.int k0), .val (.int k1), .val (.int k2), .val (.int k3), .val (.int (Int32.ofNat su)), .val (.int (Int32.ofNat eu)), .val (.ref at720), .val (.int (0 : Int32))] [])) _
              refine own_back (fun t k => XS.aload Xr720.here hx rfl (hb hby at_249) rfl rfl k) ?_
              show OwnGo p e below (T720.setTop (mkF m 251 #[.val (.int p1), .val (.int p2), .val (.int p3), .val (.int p4), .val (.int p5), .val (.int (Int32.ofNat nn)), .val (.int c0), .val (.int c1), .val (.int c2), .val (.int c3), .val (.ref b658), .val (.ref am708), .val (.int k0), .val (.int k1), .val (.int k2), .val (.int k3), .val (.int (Int32.ofNat su)), .val (.int (Int32.ofNat eu)), .val (.ref at720), .val (.int (0 : Int32))] [(.ref at720)])) _
              obtain ⟨cq727, kq727, q727a, q727b, q727c⟩ := isOf hZr720 rfl B720.exa
              obtain ⟨_, _, ⟨T727, L727, k727, n727⟩, -, X727, ⟨Lc727, hQ727, l727, y727, z727⟩, st727⟩ := Xr720.virtualBack hx (y := (⟨"java/lang/String", "length", "()I"⟩ : MethodName)) (z := (⟨"java/lang/String", "length", "()I"⟩ : MethodName)) hownr720 (mvT hZr720 (hw _ (List.mem_of_getElem? (i := 59) rfl))) (mvT hZr720 (hw _ (List.mem_of_getElem? (i := 35) rfl))) (notFace_of_selects (args := #[]) (mvT hZr720 (hw _ (List.mem_of_getElem? (i := 37) rfl)))) (mvT hZr720 (hw _ (List.mem_of_getElem? (i := 37) rfl))) (mvT hZr720 (hw _ (List.mem_of_getElem? (i := 36) rfl))) (by decide) (own_backN (W := 0) (rm_len l Z a0 hw [] at720 (((own_L nn c0 c1 c2 c3).drop su).take (eu - su)) cz T720.heap n0 Zs723 O721 B720 SC hcz) hZr720 (hw _ (List.mem_of_getElem? (i := 38) rfl)) (hw _ (List.mem_of_getElem? (i := 11) rfl)) (by decide) (by decide)) q727a q727c (g := (mkF m 251 #[.val (.int p1), .val (.int p2), .val (.int p3), .val (.int p4), .val (.int p5), .val (.int (Int32.ofNat nn)), .val (.int c0), .val (.int c1), .val (.int c2), .val (.int c3), .val (.ref b658), .val (.ref am708), .val (.int k0), .val (.int k1), .val (.int k2), .val (.int k3), .val (.int (Int32.ofNat su)), .val (.int (Int32.ofNat eu)), .val (.ref at720), .val (.int (0 : Int32))] [(.ref at720)])) rfl (by rw [hml]; rfl) (Steps.refl _) (argsL := []) (rest := []) (lenOf lw_pd3 rfl) rfl (by show 2 * 0 + _ ≤ _; exact Nat.le_of_eq rfl) (hb hby at_251) (fun _ _ => ⟨rfl, rfl, Nat.le_of_ble_eq_true rfl, Nat.le_of_ble_eq_true rfl⟩)
              dsimp only [Pt.U, Pt.locs, Pt.cells, Pt.slots] at X727 l727 y727 z727 st727 hQ727
              subst l727 y727 z727
              obtain ⟨rfl, N727q, hh727⟩ := hQ727
              refine own_seq st727 ?_
              have N727 := Fr.app N720 N727q
              show OwnGo p e below (T727.setTop (mkF m 254 #[.val (.int p1), .val (.int p2), .val (.int p3), .val (.int p4), .val (.int p5), .val (.int (Int32.ofNat nn)), .val (.int c0), .val (.int c1), .val (.int c2), .val (.int c3), .val (.ref b658), .val (.ref am708), .val (.int k0), .val (.int k1), .val (.int k2), .val (.int k3), .val (.int (Int32.ofNat su)), .val (.int (Int32.ofNat eu)), .val (.ref at720), .val (.int (0 : Int32))] [(.int (Int32.ofNat (((own_L nn c0 c1 c2 c3).drop su).take (eu - su)).length))])) _
              refine own_back (fun t k => XS.iload X727.here hx rfl (hb hby at_254) rfl k) ?_
              show OwnGo p e below (T727.setTop (mkF m 256 #[.val (.int p1), .val (.int p2), .val (.int p3), .val (.int p4), .val (.int p5), .val (.int (Int32.ofNat nn)), .val (.int c0), .val (.int c1), .val (.int c2), .val (.int c3), .val (.ref b658), .val (.ref am708), .val (.int k0), .val (.int k1), .val (.int k2), .val (.int k3), .val (.int (Int32.ofNat su)), .val (.int (Int32.ofNat eu)), .val (.ref at720), .val (.int (0 : Int32))] [(.int (0 : Int32)), (.int (Int32.ofNat (((own_L nn c0 c1 c2 c3).drop su).take (eu - su)).length))])) _
              refine own_back (fun t k => XS.icmpYes X727.here hx rfl (pc0 := 256) (pc' := 261) rfl (hb hby at_256) rfl (Jvm.Free.XT.ii_eq_t (by rw [own_rl _ su eu hbl (by omega), hm]; rfl)) (by decide) (by decide) k) ?_
              show OwnGo p e below (T727.setTop (mkF m 261 #[.val (.int p1), .val (.int p2), .val (.int p3), .val (.int p4), .val (.int p5), .val (.int (Int32.ofNat nn)), .val (.int c0), .val (.int c1), .val (.int c2), .val (.int c3), .val (.ref b658), .val (.ref am708), .val (.int k0), .val (.int k1), .val (.int k2), .val (.int k3), .val (.int (Int32.ofNat su)), .val (.int (Int32.ofNat eu)), .val (.ref at720), .val (.int (0 : Int32))] [])) _
              refine own_back (fun t k => XS.iload X727.here hx rfl (hb hby at_261) rfl k) ?_
              show OwnGo p e below (T727.setTop (mkF m 263 #[.val (.int p1), .val (.int p2), .val (.int p3), .val (.int p4), .val (.int p5), .val (.int (Int32.ofNat nn)), .val (.int c0), .val (.int c1), .val (.int c2), .val (.int c3), .val (.ref b658), .val (.ref am708), .val (.int k0), .val (.int k1), .val (.int k2), .val (.int k3), .val (.int (Int32.ofNat su)), .val (.int (Int32.ofNat eu)), .val (.ref at720), .val (.int (0 : Int32))] [(.int (0 : Int32))])) _
              refine own_back (fun t k => XS.ifYes X727.here hx rfl (pc0 := 263) (pc' := 282) rfl (hb hby at_263) rfl (Jvm.Free.XT.i0_le_t (by decide)) (by decide) (by decide) k) ?_
              show OwnGo p e below (T727.setTop (mkF m 282 #[.val (.int p1), .val (.int p2), .val (.int p3), .val (.int p4), .val (.int p5), .val (.int (Int32.ofNat nn)), .val (.int c0), .val (.int c1), .val (.int c2), .val (.int c3), .val (.ref b658), .val (.ref am708), .val (.int k0), .val (.int k1), .val (.int k2), .val (.int k3), .val (.int (Int32.ofNat su)), .val (.int (Int32.ofNat eu)), .val (.ref at720), .val (.int (0 : Int32))] [])) _
              refine own_back (fun t k => XS.iload X727.here hx rfl (hb hby at_282) rfl k) ?_
              show OwnGo p e below (T727.setTop (mkF m 284 #[.val (.int p1), .val (.int p2), .val (.int p3), .val (.int p4), .val (.int p5), .val (.int (Int32.ofNat nn)), .val (.int c0), .val (.int c1), .val (.int c2), .val (.int c3), .val (.ref b658), .val (.ref am708), .val (.int k0), .val (.int k1), .val (.int k2), .val (.int k3), .val (.int (Int32.ofNat su)), .val (.int (Int32.ofNat eu)), .val (.ref at720), .val (.int (0 : Int32))] [(.int (0 : Int32))])) _
              refine own_back (fun t k => XS.iconst X727.here hx rfl (hb hby at_284) k) ?_
              show OwnGo p e below (T727.setTop (mkF m 285 #[.val (.int p1), .val (.int p2), .val (.int p3), .val (.int p4), .val (.int p5), .val (.int (Int32.ofNat nn)), .val (.int c0), .val (.int c1), .val (.int c2), .val (.int c3), .val (.ref b658), .val (.ref am708), .val (.int k0), .val (.int k1), .val (.int k2), .val (.int k3), .val (.int (Int32.ofNat su)), .val (.int (Int32.ofNat eu)), .val (.ref at720), .val (.int (0 : Int32))] [(.int (1 : Int32)), (.int (0 : Int32))])) _
              refine own_back (fun t k => XS.icmpYes X727.here hx rfl (pc0 := 285) (pc' := 306) rfl (hb hby at_285) rfl (Jvm.Free.XT.ii_le_t (by decide)) (by decide) (by decide) k) ?_
              show OwnGo p e below (T727.setTop (mkF m 306 #[.val (.int p1), .val (.int p2), .val (.int p3), .val (.int p4), .val (.int p5), .val (.int (Int32.ofNat nn)), .val (.int c0), .val (.int c1), .val (.int c2), .val (.int c3), .val (.ref b658), .val (.ref am708), .val (.int k0), .val (.int k1), .val (.int k2), .val (.int k3), .val (.int (Int32.ofNat su)), .val (.int (Int32.ofNat eu)), .val (.ref at720), .val (.int (0 : Int32))] [])) _
              refine own_back (fun t k => XS.iload X727.here hx rfl (hb hby at_306) rfl k) ?_
              show OwnGo p e below (T727.setTop (mkF m 308 #[.val (.int p1), .val (.int p2), .val (.int p3), .val (.int p4), .val (.int p5), .val (.int (Int32.ofNat nn)), .val (.int c0), .val (.int c1), .val (.int c2), .val (.int c3), .val (.ref b658), .val (.ref am708), .val (.int k0), .val (.int k1), .val (.int k2), .val (.int k3), .val (.int (Int32.ofNat su)), .val (.int (Int32.ofNat eu)), .val (.ref at720), .val (.int (0 : Int32))] [(.int (0 : Int32))])) _
              refine own_back (fun t k => XS.iconst X727.here hx rfl (hb hby at_308) k) ?_
              show OwnGo p e below (T727.setTop (mkF m 309 #[.val (.int p1), .val (.int p2), .val (.int p3), .val (.int p4), .val (.int p5), .val (.int (Int32.ofNat nn)), .val (.int c0), .val (.int c1), .val (.int c2), .val (.int c3), .val (.ref b658), .val (.ref am708), .val (.int k0), .val (.int k1), .val (.int k2), .val (.int k3), .val (.int (Int32.ofNat su)), .val (.int (Int32.ofNat eu)), .val (.ref at720), .val (.int (0 : Int32))] [(.int (2 : Int32)), (.int (0 : Int32))])) _
              refine own_back (fun t k => XS.icmpYes X727.here hx rfl (pc0 := 309) (pc' := 330) rfl (hb hby at_309) rfl (Jvm.Free.XT.ii_le_t (by decide)) (by decide) (by decide) k) ?_
              show OwnGo p e below (T727.setTop (mkF m 330 #[.val (.int p1), .val (.int p2), .val (.int p3), .val (.int p4), .val (.int p5), .val (.int (Int32.ofNat nn)), .val (.int c0), .val (.int c1), .val (.int c2), .val (.int c3), .val (.ref b658), .val (.ref am708), .val (.int k0), .val (.int k1), .val (.int k2), .val (.int k3), .val (.int (Int32.ofNat su)), .val (.int (Int32.ofNat eu)), .val (.ref at720), .val (.int (0 : Int32))] [])) _
              refine own_back (fun t k => XS.iload X727.here hx rfl (hb hby at_330) rfl k) ?_
              show OwnGo p e below (T727.setTop (mkF m 332 #[.val (.int p1), .val (.int p2), .val (.int p3), .val (.int p4), .val (.int p5), .val (.int (Int32.ofNat nn)), .val (.int c0), .val (.int c1), .val (.int c2), .val (.int c3), .val (.ref b658), .val (.ref am708), .val (.int k0), .val (.int k1), .val (.int k2), .val (.int k3), .val (.int (Int32.ofNat su)), .val (.int (Int32.ofNat eu)), .val (.ref at720), .val (.int (0 : Int32))] [(.int (0 : Int32))])) _
              refine own_back (fun t k => XS.iconst X727.here hx rfl (hb hby at_332) k) ?_
              show OwnGo p e below (T727.setTop (mkF m 333 #[.val (.int p1), .val (.int p2), .val (.int p3), .val (.int p4), .val (.int p5), .val (.int (Int32.ofNat nn)), .val (.int c0), .val (.int c1), .val (.int c2), .val (.int c3), .val (.ref b658), .val (.ref am708), .val (.int k0), .val (.int k1), .val (.int k2), .val (.int k3), .val (.int (Int32.ofNat su)), .val (.int (Int32.ofNat eu)), .val (.ref at720), .val (.int (0 : Int32))] [(.int (3 : Int32)), (.int (0 : Int32))])) _
              refine own_back (fun t k => XS.icmpYes X727.here hx rfl (pc0 := 333) (pc' := 354) rfl (hb hby at_333) rfl (Jvm.Free.XT.ii_le_t (by decide)) (by decide) (by decide) k) ?_
              show OwnGo p e below (T727.setTop (mkF m 354 #[.val (.int p1), .val (.int p2), .val (.int p3), .val (.int p4), .val (.int p5), .val (.int (Int32.ofNat nn)), .val (.int c0), .val (.int c1), .val (.int c2), .val (.int c3), .val (.ref b658), .val (.ref am708), .val (.int k0), .val (.int k1), .val (.int k2), .val (.int k3), .val (.int (Int32.ofNat su)), .val (.int (Int32.ofNat eu)), .val (.ref at720), .val (.int (0 : Int32))] [])) _
              refine own_back (fun t k => XS.iconst X727.here hx rfl (hb hby at_354) k) ?_
              show OwnGo p e below (T727.setTop (mkF m 355 #[.val (.int p1), .val (.int p2), .val (.int p3), .val (.int p4), .val (.int p5), .val (.int (Int32.ofNat nn)), .val (.int c0), .val (.int c1), .val (.int c2), .val (.int c3), .val (.ref b658), .val (.ref am708), .val (.int k0), .val (.int k1), .val (.int k2), .val (.int k3), .val (.int (Int32.ofNat su)), .val (.int (Int32.ofNat eu)), .val (.ref at720), .val (.int (0 : Int32))] [(.int (1 : Int32))])) _
              refine own_retNW X727 hx Bd.notSynchronized (t := .boolean) (z := (1 : Int32)) Bd.returns (by simp) rfl hSr720 (Nat.le_refl _) hZr720 hEL (hh ▸ CR724) (hb hby at_355) hh727 (Nat.le_of_ble_eq_true rfl) (Nat.le_of_ble_eq_true rfl) ?_
              exact ⟨rfl, N727⟩
            · rw [show (Int32.ofNat (eu - su)) = (1 : Int32) from congrArg Int32.ofNat hm]
              show OwnGo p e below (T720.setTop (mkF m 247 #[.val (.int p1), .val (.int p2), .val (.int p3), .val (.int p4), .val (.int p5), .val (.int (Int32.ofNat nn)), .val (.int c0), .val (.int c1), .val (.int c2), .val (.int c3), .val (.ref b658), .val (.ref am708), .val (.int k0), .val (.int k1), .val (.int k2), .val (.int k3), .val (.int (Int32.ofNat su)), .val (.int (Int32.ofNat eu)), .val (.ref at720), .unset] [(.int (1 : Int32))])) _
              refine own_back (fun t k => XS.istore Xr720.here hx rfl (hb hby at_247) rfl (l' := #[.val (.int p1), .val (.int p2), .val (.int p3), .val (.int p4), .val (.int p5), .val (.int (Int32.ofNat nn)), .val (.int c0), .val (.int c1), .val (.int c2), .val (.int c3), .val (.ref b658), .val (.ref am708), .val (.int k0), .val (.int k1), .val (.int k2), .val (.int k3), .val (.int (Int32.ofNat su)), .val (.int (Int32.ofNat eu)), .val (.ref at720), .val (.int (1 : Int32))]) rfl k) ?_
              show OwnGo p e below (T720.setTop (mkF m 249 #[.val (.int p1), .val (.int p2), .val (.int p3), .val (.int p4), .val (.int p5), .val (.int (Int32.ofNat nn)), .val (.int c0), .val (.int c1), .val (.int c2), .val (.int c3), .val (.ref b658), .val (.ref am708), .val (.int k0), .val (.int k1), .val (.int k2), .val (.int k3), .val (.int (Int32.ofNat su)), .val (.int (Int32.ofNat eu)), .val (.ref at720), .val (.int (1 : Int32))] [])) _
              refine own_back (fun t k => XS.aload Xr720.here hx rfl (hb hby at_249) rfl rfl k) ?_
              show OwnGo p e below (T720.setTop (mkF m 251 #[.val (.int p1), .val (.int p2), .val (.int p3), .val (.int p4), .val (.int p5), .val (.int (Int32.ofNat nn)), .val (.int c0), .val (.int c1), .val (.int c2), .val (.int c3), .val (.ref b658), .val (.ref am708), .val (.int k0), .val (.int k1), .val (.int k2), .val (.int k3), .val (.int (Int32.ofNat su)), .val (.int (Int32.ofNat eu)), .val (.ref at720), .val (.int (1 : Int32))] [(.ref at720)])) _
              obtain ⟨cq728, kq728, q728a, q728b, q728c⟩ := isOf hZr720 rfl B720.exa
              obtain ⟨_, _, ⟨T728, L728, k728, n728⟩, -, X728, ⟨Lc728, hQ728, l728, y728, z728⟩, st728⟩ := Xr720.virtualBack hx (y := (⟨"java/lang/String", "length", "()I"⟩ : MethodName)) (z := (⟨"java/lang/String", "length", "()I"⟩ : MethodName)) hownr720 (mvT hZr720 (hw _ (List.mem_of_getElem? (i := 59) rfl))) (mvT hZr720 (hw _ (List.mem_of_getElem? (i := 35) rfl))) (notFace_of_selects (args := #[]) (mvT hZr720 (hw _ (List.mem_of_getElem? (i := 37) rfl)))) (mvT hZr720 (hw _ (List.mem_of_getElem? (i := 37) rfl))) (mvT hZr720 (hw _ (List.mem_of_getElem? (i := 36) rfl))) (by decide) (own_backN (W := 0) (rm_len l Z a0 hw [] at720 (((own_L nn c0 c1 c2 c3).drop su).take (eu - su)) cz T720.heap n0 Zs723 O721 B720 SC hcz) hZr720 (hw _ (List.mem_of_getElem? (i := 38) rfl)) (hw _ (List.mem_of_getElem? (i := 11) rfl)) (by decide) (by decide)) q728a q728c (g := (mkF m 251 #[.val (.int p1), .val (.int p2), .val (.int p3), .val (.int p4), .val (.int p5), .val (.int (Int32.ofNat nn)), .val (.int c0), .val (.int c1), .val (.int c2), .val (.int c3), .val (.ref b658), .val (.ref am708), .val (.int k0), .val (.int k1), .val (.int k2), .val (.int k3), .val (.int (Int32.ofNat su)), .val (.int (Int32.ofNat eu)), .val (.ref at720), .val (.int (1 : Int32))] [(.ref at720)])) rfl (by rw [hml]; rfl) (Steps.refl _) (argsL := []) (rest := []) (lenOf lw_pd3 rfl) rfl (by show 2 * 0 + _ ≤ _; exact Nat.le_of_eq rfl) (hb hby at_251) (fun _ _ => ⟨rfl, rfl, Nat.le_of_ble_eq_true rfl, Nat.le_of_ble_eq_true rfl⟩)
              dsimp only [Pt.U, Pt.locs, Pt.cells, Pt.slots] at X728 l728 y728 z728 st728 hQ728
              subst l728 y728 z728
              obtain ⟨rfl, N728q, hh728⟩ := hQ728
              refine own_seq st728 ?_
              have N728 := Fr.app N720 N728q
              show OwnGo p e below (T728.setTop (mkF m 254 #[.val (.int p1), .val (.int p2), .val (.int p3), .val (.int p4), .val (.int p5), .val (.int (Int32.ofNat nn)), .val (.int c0), .val (.int c1), .val (.int c2), .val (.int c3), .val (.ref b658), .val (.ref am708), .val (.int k0), .val (.int k1), .val (.int k2), .val (.int k3), .val (.int (Int32.ofNat su)), .val (.int (Int32.ofNat eu)), .val (.ref at720), .val (.int (1 : Int32))] [(.int (Int32.ofNat (((own_L nn c0 c1 c2 c3).drop su).take (eu - su)).length))])) _
              refine own_back (fun t k => XS.iload X728.here hx rfl (hb hby at_254) rfl k) ?_
              show OwnGo p e below (T728.setTop (mkF m 256 #[.val (.int p1), .val (.int p2), .val (.int p3), .val (.int p4), .val (.int p5), .val (.int (Int32.ofNat nn)), .val (.int c0), .val (.int c1), .val (.int c2), .val (.int c3), .val (.ref b658), .val (.ref am708), .val (.int k0), .val (.int k1), .val (.int k2), .val (.int k3), .val (.int (Int32.ofNat su)), .val (.int (Int32.ofNat eu)), .val (.ref at720), .val (.int (1 : Int32))] [(.int (1 : Int32)), (.int (Int32.ofNat (((own_L nn c0 c1 c2 c3).drop su).take (eu - su)).length))])) _
              refine own_back (fun t k => XS.icmpYes X728.here hx rfl (pc0 := 256) (pc' := 261) rfl (hb hby at_256) rfl (Jvm.Free.XT.ii_eq_t (by rw [own_rl _ su eu hbl (by omega), hm]; rfl)) (by decide) (by decide) k) ?_
              show OwnGo p e below (T728.setTop (mkF m 261 #[.val (.int p1), .val (.int p2), .val (.int p3), .val (.int p4), .val (.int p5), .val (.int (Int32.ofNat nn)), .val (.int c0), .val (.int c1), .val (.int c2), .val (.int c3), .val (.ref b658), .val (.ref am708), .val (.int k0), .val (.int k1), .val (.int k2), .val (.int k3), .val (.int (Int32.ofNat su)), .val (.int (Int32.ofNat eu)), .val (.ref at720), .val (.int (1 : Int32))] [])) _
              refine own_back (fun t k => XS.iload X728.here hx rfl (hb hby at_261) rfl k) ?_
              show OwnGo p e below (T728.setTop (mkF m 263 #[.val (.int p1), .val (.int p2), .val (.int p3), .val (.int p4), .val (.int p5), .val (.int (Int32.ofNat nn)), .val (.int c0), .val (.int c1), .val (.int c2), .val (.int c3), .val (.ref b658), .val (.ref am708), .val (.int k0), .val (.int k1), .val (.int k2), .val (.int k3), .val (.int (Int32.ofNat su)), .val (.int (Int32.ofNat eu)), .val (.ref at720), .val (.int (1 : Int32))] [(.int (1 : Int32))])) _
              refine own_back (fun t k => XS.ifNo X728.here hx rfl (hb hby at_263) rfl (Jvm.Free.XT.i0_le_f (by decide)) k) ?_
              show OwnGo p e below (T728.setTop (mkF m 266 #[.val (.int p1), .val (.int p2), .val (.int p3), .val (.int p4), .val (.int p5), .val (.int (Int32.ofNat nn)), .val (.int c0), .val (.int c1), .val (.int c2), .val (.int c3), .val (.ref b658), .val (.ref am708), .val (.int k0), .val (.int k1), .val (.int k2), .val (.int k3), .val (.int (Int32.ofNat su)), .val (.int (Int32.ofNat eu)), .val (.ref at720), .val (.int (1 : Int32))] [])) _
              refine own_back (fun t k => XS.aload X728.here hx rfl (hb hby at_266) rfl rfl k) ?_
              show OwnGo p e below (T728.setTop (mkF m 268 #[.val (.int p1), .val (.int p2), .val (.int p3), .val (.int p4), .val (.int p5), .val (.int (Int32.ofNat nn)), .val (.int c0), .val (.int c1), .val (.int c2), .val (.int c3), .val (.ref b658), .val (.ref am708), .val (.int k0), .val (.int k1), .val (.int k2), .val (.int k3), .val (.int (Int32.ofNat su)), .val (.int (Int32.ofNat eu)), .val (.ref at720), .val (.int (1 : Int32))] [(.ref at720)])) _
              refine own_back (fun t k => XS.iconst X728.here hx rfl (hb hby at_268) k) ?_
              show OwnGo p e below (T728.setTop (mkF m 269 #[.val (.int p1), .val (.int p2), .val (.int p3), .val (.int p4), .val (.int p5), .val (.int (Int32.ofNat nn)), .val (.int c0), .val (.int c1), .val (.int c2), .val (.int c3), .val (.ref b658), .val (.ref am708), .val (.int k0), .val (.int k1), .val (.int k2), .val (.int k3), .val (.int (Int32.ofNat su)), .val (.int (Int32.ofNat eu)), .val (.ref at720), .val (.int (1 : Int32))] [(.int (0 : Int32)), (.ref at720)])) _
              obtain ⟨cq729, kq729, q729a, q729b, q729c⟩ := isOf hZr720 hh728 B720.exa
              obtain ⟨_, _, ⟨T729, L729, k729, n729⟩, -, X729, ⟨Lc729, hQ729, l729, y729, z729⟩, st729⟩ := X728.virtualBack hx (y := (⟨"java/lang/String", "charAt", "(I)C"⟩ : MethodName)) (z := (⟨"java/lang/String", "charAt", "(I)C"⟩ : MethodName)) hownr720 (mvT hZr720 (hw _ (List.mem_of_getElem? (i := 121) rfl))) (mvT hZr720 (hw _ (List.mem_of_getElem? (i := 74) rfl))) (notFace_of_selects (args := #[]) (mvT hZr720 (hw _ (List.mem_of_getElem? (i := 76) rfl)))) (mvT hZr720 (hw _ (List.mem_of_getElem? (i := 76) rfl))) (mvT hZr720 (hw _ (List.mem_of_getElem? (i := 75) rfl))) (by decide) (own_backN (W := 0) (rm_ch l Z a0 hw [] at720 (((own_L nn c0 c1 c2 c3).drop su).take (eu - su)) 0 cz fm T720.heap n0 Zs723 O721 B720 (by rw [own_rl _ su eu hbl (by omega), hm]; decide) SC hcz SO hfm) hZr720 (hw _ (List.mem_of_getElem? (i := 77) rfl)) (hw _ (List.mem_of_getElem? (i := 11) rfl)) (by decide) (by decide)) q729a q729c (g := (mkF m 269 #[.val (.int p1), .val (.int p2), .val (.int p3), .val (.int p4), .val (.int p5), .val (.int (Int32.ofNat nn)), .val (.int c0), .val (.int c1), .val (.int c2), .val (.int c3), .val (.ref b658), .val (.ref am708), .val (.int k0), .val (.int k1), .val (.int k2), .val (.int k3), .val (.int (Int32.ofNat su)), .val (.int (Int32.ofNat eu)), .val (.ref at720), .val (.int (1 : Int32))] [(.int (0 : Int32)), (.ref at720)])) rfl (by rw [hml]; rfl) (Steps.refl _) (argsL := [(.int (0 : Int32))]) (rest := []) (lenOf lw_pd0 rfl) rfl (by show 2 * 0 + _ ≤ _; exact Nat.le_of_eq rfl) (hb hby at_269) (fun _ _ => ⟨rfl, hh728, Nat.le_of_ble_eq_true rfl, Nat.le_of_ble_eq_true rfl⟩)
              dsimp only [Pt.U, Pt.locs, Pt.cells, Pt.slots] at X729 l729 y729 z729 st729 hQ729
              subst l729 y729 z729
              obtain ⟨rfl, N729q, hh729⟩ := hQ729
              refine own_seq st729 ?_
              have N729 := Fr.app N728 N729q
              show OwnGo p e below (T729.setTop (mkF m 272 #[.val (.int p1), .val (.int p2), .val (.int p3), .val (.int p4), .val (.int p5), .val (.int (Int32.ofNat nn)), .val (.int c0), .val (.int c1), .val (.int c2), .val (.int c3), .val (.ref b658), .val (.ref am708), .val (.int k0), .val (.int k1), .val (.int k2), .val (.int k3), .val (.int (Int32.ofNat su)), .val (.int (Int32.ofNat eu)), .val (.ref at720), .val (.int (1 : Int32))] [(.int (own_ch ((((own_L nn c0 c1 c2 c3).drop su).take (eu - su)).getD 0 0)))])) _
              refine own_back (fun t k => XS.aload X729.here hx rfl (hb hby at_272) rfl rfl k) ?_
              show OwnGo p e below (T729.setTop (mkF m 274 #[.val (.int p1), .val (.int p2), .val (.int p3), .val (.int p4), .val (.int p5), .val (.int (Int32.ofNat nn)), .val (.int c0), .val (.int c1), .val (.int c2), .val (.int c3), .val (.ref b658), .val (.ref am708), .val (.int k0), .val (.int k1), .val (.int k2), .val (.int k3), .val (.int (Int32.ofNat su)), .val (.int (Int32.ofNat eu)), .val (.ref at720), .val (.int (1 : Int32))] [(.ref b658), (.int (own_ch ((((own_L nn c0 c1 c2 c3).drop su).take (eu - su)).getD 0 0)))])) _
              refine own_back (fun t k => XS.iload X729.here hx rfl (hb hby at_274) rfl k) ?_
              show OwnGo p e below (T729.setTop (mkF m 276 #[.val (.int p1), .val (.int p2), .val (.int p3), .val (.int p4), .val (.int p5), .val (.int (Int32.ofNat nn)), .val (.int c0), .val (.int c1), .val (.int c2), .val (.int c3), .val (.ref b658), .val (.ref am708), .val (.int k0), .val (.int k1), .val (.int k2), .val (.int k3), .val (.int (Int32.ofNat su)), .val (.int (Int32.ofNat eu)), .val (.ref at720), .val (.int (1 : Int32))] [(.int (Int32.ofNat su)), (.ref b658), (.int (own_ch ((((own_L nn c0 c1 c2 c3).drop su).take (eu - su)).getD 0 0)))])) _
              obtain ⟨c730, A730, q730, S730, M730, H730, U730⟩ := id f726
              have ib731 : ¬ ((Int32.ofNat su) < 0 ∨ c730.slots.size ≤ ((Int32.ofNat su)).toNatClampNeg) := (inb_of S730 ⟨own_nn (by omega), own_lti (i := su) (n := 4) (by decide) (by omega)⟩)
              refine own_back (fun t k => X729.caload hx (j := (Int32.ofNat su)) (v := (.int (nar .char ([c0, c1, c2, c3].getD su 0)))) (own_hat hh729 A730.1) (State.isArrayOf_alike hZr720.alike A730.2.1) A730.2.2 ib731 (H730.at ib731 (own_cs c0 c1 c2 c3 (by omega))) (g := (mkF m 276 #[.val (.int p1), .val (.int p2), .val (.int p3), .val (.int p4), .val (.int p5), .val (.int (Int32.ofNat nn)), .val (.int c0), .val (.int c1), .val (.int c2), .val (.int c3), .val (.ref b658), .val (.ref am708), .val (.int k0), .val (.int k1), .val (.int k2), .val (.int k3), .val (.int (Int32.ofNat su)), .val (.int (Int32.ofNat eu)), .val (.ref at720), .val (.int (1 : Int32))] [(.int (Int32.ofNat su)), (.ref b658), (.int (own_ch ((((own_L nn c0 c1 c2 c3).drop su).take (eu - su)).getD 0 0)))])) rfl rfl (hb hby at_276) t k) ?_
              show OwnGo p e below (T729.setTop (mkF m 277 #[.val (.int p1), .val (.int p2), .val (.int p3), .val (.int p4), .val (.int p5), .val (.int (Int32.ofNat nn)), .val (.int c0), .val (.int c1), .val (.int c2), .val (.int c3), .val (.ref b658), .val (.ref am708), .val (.int k0), .val (.int k1), .val (.int k2), .val (.int k3), .val (.int (Int32.ofNat su)), .val (.int (Int32.ofNat eu)), .val (.ref at720), .val (.int (1 : Int32))] [(.int (nar .char ([c0, c1, c2, c3].getD su 0))), (.int (own_ch ((((own_L nn c0 c1 c2 c3).drop su).take (eu - su)).getD 0 0)))])) _
              refine own_back (fun t k => XS.icmpYes X729.here hx rfl (pc0 := 277) (pc' := 282) rfl (hb hby at_277) rfl (Jvm.Free.XT.ii_eq_t ((own_at2 c0 c1 c2 c3 r0 r1 r2 r3 hn (su := su) (mu := eu - su) (q := 0) (by omega) (by omega)).trans (own_nar (own_rget r0 r1 r2 r3 (by omega))).symm)) (by decide) (by decide) k) ?_
              show OwnGo p e below (T729.setTop (mkF m 282 #[.val (.int p1), .val (.int p2), .val (.int p3), .val (.int p4), .val (.int p5), .val (.int (Int32.ofNat nn)), .val (.int c0), .val (.int c1), .val (.int c2), .val (.int c3), .val (.ref b658), .val (.ref am708), .val (.int k0), .val (.int k1), .val (.int k2), .val (.int k3), .val (.int (Int32.ofNat su)), .val (.int (Int32.ofNat eu)), .val (.ref at720), .val (.int (1 : Int32))] [])) _
              refine own_back (fun t k => XS.iload X729.here hx rfl (hb hby at_282) rfl k) ?_
              show OwnGo p e below (T729.setTop (mkF m 284 #[.val (.int p1), .val (.int p2), .val (.int p3), .val (.int p4), .val (.int p5), .val (.int (Int32.ofNat nn)), .val (.int c0), .val (.int c1), .val (.int c2), .val (.int c3), .val (.ref b658), .val (.ref am708), .val (.int k0), .val (.int k1), .val (.int k2), .val (.int k3), .val (.int (Int32.ofNat su)), .val (.int (Int32.ofNat eu)), .val (.ref at720), .val (.int (1 : Int32))] [(.int (1 : Int32))])) _
              refine own_back (fun t k => XS.iconst X729.here hx rfl (hb hby at_284) k) ?_
              show OwnGo p e below (T729.setTop (mkF m 285 #[.val (.int p1), .val (.int p2), .val (.int p3), .val (.int p4), .val (.int p5), .val (.int (Int32.ofNat nn)), .val (.int c0), .val (.int c1), .val (.int c2), .val (.int c3), .val (.ref b658), .val (.ref am708), .val (.int k0), .val (.int k1), .val (.int k2), .val (.int k3), .val (.int (Int32.ofNat su)), .val (.int (Int32.ofNat eu)), .val (.ref at720), .val (.int (1 : Int32))] [(.int (1 : Int32)), (.int (1 : Int32))])) _
              refine own_back (fun t k => XS.icmpYes X729.here hx rfl (pc0 := 285) (pc' := 306) rfl (hb hby at_285) rfl (Jvm.Free.XT.ii_le_t (by decide)) (by decide) (by decide) k) ?_
              show OwnGo p e below (T729.setTop (mkF m 306 #[.val (.int p1), .val (.int p2), .val (.int p3), .val (.int p4), .val (.int p5), .val (.int (Int32.ofNat nn)), .val (.int c0), .val (.int c1), .val (.int c2), .val (.int c3), .val (.ref b658), .val (.ref am708), .val (.int k0), .val (.int k1), .val (.int k2), .val (.int k3), .val (.int (Int32.ofNat su)), .val (.int (Int32.ofNat eu)), .val (.ref at720), .val (.int (1 : Int32))] [])) _
              refine own_back (fun t k => XS.iload X729.here hx rfl (hb hby at_306) rfl k) ?_
              show OwnGo p e below (T729.setTop (mkF m 308 #[.val (.int p1), .val (.int p2), .val (.int p3), .val (.int p4), .val (.int p5), .val (.int (Int32.ofNat nn)), .val (.int c0), .val (.int c1), .val (.int c2), .val (.int c3), .val (.ref b658), .val (.ref am708), .val (.int k0), .val (.int k1), .val (.int k2), .val (.int k3), .val (.int (Int32.ofNat su)), .val (.int (Int32.ofNat eu)), .val (.ref at720), .val (.int (1 : Int32))] [(.int (1 : Int32))])) _
              refine own_back (fun t k => XS.iconst X729.here hx rfl (hb hby at_308) k) ?_
              show OwnGo p e below (T729.setTop (mkF m 309 #[.val (.int p1), .val (.int p2), .val (.int p3), .val (.int p4), .val (.int p5), .val (.int (Int32.ofNat nn)), .val (.int c0), .val (.int c1), .val (.int c2), .val (.int c3), .val (.ref b658), .val (.ref am708), .val (.int k0), .val (.int k1), .val (.int k2), .val (.int k3), .val (.int (Int32.ofNat su)), .val (.int (Int32.ofNat eu)), .val (.ref at720), .val (.int (1 : Int32))] [(.int (2 : Int32)), (.int (1 : Int32))])) _
              refine own_back (fun t k => XS.icmpYes X729.here hx rfl (pc0 := 309) (pc' := 330) rfl (hb hby at_309) rfl (Jvm.Free.XT.ii_le_t (by decide)) (by decide) (by decide) k) ?_
              show OwnGo p e below (T729.setTop (mkF m 330 #[.val (.int p1), .val (.int p2), .val (.int p3), .val (.int p4), .val (.int p5), .val (.int (Int32.ofNat nn)), .val (.int c0), .val (.int c1), .val (.int c2), .val (.int c3), .val (.ref b658), .val (.ref am708), .val (.int k0), .val (.int k1), .val (.int k2), .val (.int k3), .val (.int (Int32.ofNat su)), .val (.int (Int32.ofNat eu)), .val (.ref at720), .val (.int (1 : Int32))] [])) _
              refine own_back (fun t k => XS.iload X729.here hx rfl (hb hby at_330) rfl k) ?_
              show OwnGo p e below (T729.setTop (mkF m 332 #[.val (.int p1), .val (.int p2), .val (.int p3), .val (.int p4), .val (.int p5), .val (.int (Int32.ofNat nn)), .val (.int c0), .val (.int c1), .val (.int c2), .val (.int c3), .val (.ref b658), .val (.ref am708), .val (.int k0), .val (.int k1), .val (.int k2), .val (.int k3), .val (.int (Int32.ofNat su)), .val (.int (Int32.ofNat eu)), .val (.ref at720), .val (.int (1 : Int32))] [(.int (1 : Int32))])) _
              refine own_back (fun t k => XS.iconst X729.here hx rfl (hb hby at_332) k) ?_
              show OwnGo p e below (T729.setTop (mkF m 333 #[.val (.int p1), .val (.int p2), .val (.int p3), .val (.int p4), .val (.int p5), .val (.int (Int32.ofNat nn)), .val (.int c0), .val (.int c1), .val (.int c2), .val (.int c3), .val (.ref b658), .val (.ref am708), .val (.int k0), .val (.int k1), .val (.int k2), .val (.int k3), .val (.int (Int32.ofNat su)), .val (.int (Int32.ofNat eu)), .val (.ref at720), .val (.int (1 : Int32))] [(.int (3 : Int32)), (.int (1 : Int32))])) _
              refine own_back (fun t k => XS.icmpYes X729.here hx rfl (pc0 := 333) (pc' := 354) rfl (hb hby at_333) rfl (Jvm.Free.XT.ii_le_t (by decide)) (by decide) (by decide) k) ?_
              show OwnGo p e below (T729.setTop (mkF m 354 #[.val (.int p1), .val (.int p2), .val (.int p3), .val (.int p4), .val (.int p5), .val (.int (Int32.ofNat nn)), .val (.int c0), .val (.int c1), .val (.int c2), .val (.int c3), .val (.ref b658), .val (.ref am708), .val (.int k0), .val (.int k1), .val (.int k2), .val (.int k3), .val (.int (Int32.ofNat su)), .val (.int (Int32.ofNat eu)), .val (.ref at720), .val (.int (1 : Int32))] [])) _
              refine own_back (fun t k => XS.iconst X729.here hx rfl (hb hby at_354) k) ?_
              show OwnGo p e below (T729.setTop (mkF m 355 #[.val (.int p1), .val (.int p2), .val (.int p3), .val (.int p4), .val (.int p5), .val (.int (Int32.ofNat nn)), .val (.int c0), .val (.int c1), .val (.int c2), .val (.int c3), .val (.ref b658), .val (.ref am708), .val (.int k0), .val (.int k1), .val (.int k2), .val (.int k3), .val (.int (Int32.ofNat su)), .val (.int (Int32.ofNat eu)), .val (.ref at720), .val (.int (1 : Int32))] [(.int (1 : Int32))])) _
              refine own_retNW X729 hx Bd.notSynchronized (t := .boolean) (z := (1 : Int32)) Bd.returns (by simp) rfl hSr720 (Nat.le_refl _) hZr720 hEL (hh ▸ CR724) (hb hby at_355) hh729 (Nat.le_of_ble_eq_true rfl) (Nat.le_of_ble_eq_true rfl) ?_
              exact ⟨rfl, N729⟩
            · rw [show (Int32.ofNat (eu - su)) = (2 : Int32) from congrArg Int32.ofNat hm]
              show OwnGo p e below (T720.setTop (mkF m 247 #[.val (.int p1), .val (.int p2), .val (.int p3), .val (.int p4), .val (.int p5), .val (.int (Int32.ofNat nn)), .val (.int c0), .val (.int c1), .val (.int c2), .val (.int c3), .val (.ref b658), .val (.ref am708), .val (.int k0), .val (.int k1), .val (.int k2), .val (.int k3), .val (.int (Int32.ofNat su)), .val (.int (Int32.ofNat eu)), .val (.ref at720), .unset] [(.int (2 : Int32))])) _
              refine own_back (fun t k => XS.istore Xr720.here hx rfl (hb hby at_247) rfl (l' := #[.val (.int p1), .val (.int p2), .val (.int p3), .val (.int p4), .val (.int p5), .val (.int (Int32.ofNat nn)), .val (.int c0), .val (.int c1), .val (.int c2), .val (.int c3), .val (.ref b658), .val (.ref am708), .val (.int k0), .val (.int k1), .val (.int k2), .val (.int k3), .val (.int (Int32.ofNat su)), .val (.int (Int32.ofNat eu)), .val (.ref at720), .val (.int (2 : Int32))]) rfl k) ?_
              show OwnGo p e below (T720.setTop (mkF m 249 #[.val (.int p1), .val (.int p2), .val (.int p3), .val (.int p4), .val (.int p5), .val (.int (Int32.ofNat nn)), .val (.int c0), .val (.int c1), .val (.int c2), .val (.int c3), .val (.ref b658), .val (.ref am708), .val (.int k0), .val (.int k1), .val (.int k2), .val (.int k3), .val (.int (Int32.ofNat su)), .val (.int (Int32.ofNat eu)), .val (.ref at720), .val (.int (2 : Int32))] [])) _
              refine own_back (fun t k => XS.aload Xr720.here hx rfl (hb hby at_249) rfl rfl k) ?_
              show OwnGo p e below (T720.setTop (mkF m 251 #[.val (.int p1), .val (.int p2), .val (.int p3), .val (.int p4), .val (.int p5), .val (.int (Int32.ofNat nn)), .val (.int c0), .val (.int c1), .val (.int c2), .val (.int c3), .val (.ref b658), .val (.ref am708), .val (.int k0), .val (.int k1), .val (.int k2), .val (.int k3), .val (.int (Int32.ofNat su)), .val (.int (Int32.ofNat eu)), .val (.ref at720), .val (.int (2 : Int32))] [(.ref at720)])) _
              obtain ⟨cq732, kq732, q732a, q732b, q732c⟩ := isOf hZr720 rfl B720.exa
              obtain ⟨_, _, ⟨T732, L732, k732, n732⟩, -, X732, ⟨Lc732, hQ732, l732, y732, z732⟩, st732⟩ := Xr720.virtualBack hx (y := (⟨"java/lang/String", "length", "()I"⟩ : MethodName)) (z := (⟨"java/lang/String", "length", "()I"⟩ : MethodName)) hownr720 (mvT hZr720 (hw _ (List.mem_of_getElem? (i := 59) rfl))) (mvT hZr720 (hw _ (List.mem_of_getElem? (i := 35) rfl))) (notFace_of_selects (args := #[]) (mvT hZr720 (hw _ (List.mem_of_getElem? (i := 37) rfl)))) (mvT hZr720 (hw _ (List.mem_of_getElem? (i := 37) rfl))) (mvT hZr720 (hw _ (List.mem_of_getElem? (i := 36) rfl))) (by decide) (own_backN (W := 0) (rm_len l Z a0 hw [] at720 (((own_L nn c0 c1 c2 c3).drop su).take (eu - su)) cz T720.heap n0 Zs723 O721 B720 SC hcz) hZr720 (hw _ (List.mem_of_getElem? (i := 38) rfl)) (hw _ (List.mem_of_getElem? (i := 11) rfl)) (by decide) (by decide)) q732a q732c (g := (mkF m 251 #[.val (.int p1), .val (.int p2), .val (.int p3), .val (.int p4), .val (.int p5), .val (.int (Int32.ofNat nn)), .val (.int c0), .val (.int c1), .val (.int c2), .val (.int c3), .val (.ref b658), .val (.ref am708), .val (.int k0), .val (.int k1), .val (.int k2), .val (.int k3), .val (.int (Int32.ofNat su)), .val (.int (Int32.ofNat eu)), .val (.ref at720), .val (.int (2 : Int32))] [(.ref at720)])) rfl (by rw [hml]; rfl) (Steps.refl _) (argsL := []) (rest := []) (lenOf lw_pd3 rfl) rfl (by show 2 * 0 + _ ≤ _; exact Nat.le_of_eq rfl) (hb hby at_251) (fun _ _ => ⟨rfl, rfl, Nat.le_of_ble_eq_true rfl, Nat.le_of_ble_eq_true rfl⟩)
              dsimp only [Pt.U, Pt.locs, Pt.cells, Pt.slots] at X732 l732 y732 z732 st732 hQ732
              subst l732 y732 z732
              obtain ⟨rfl, N732q, hh732⟩ := hQ732
              refine own_seq st732 ?_
              have N732 := Fr.app N720 N732q
              show OwnGo p e below (T732.setTop (mkF m 254 #[.val (.int p1), .val (.int p2), .val (.int p3), .val (.int p4), .val (.int p5), .val (.int (Int32.ofNat nn)), .val (.int c0), .val (.int c1), .val (.int c2), .val (.int c3), .val (.ref b658), .val (.ref am708), .val (.int k0), .val (.int k1), .val (.int k2), .val (.int k3), .val (.int (Int32.ofNat su)), .val (.int (Int32.ofNat eu)), .val (.ref at720), .val (.int (2 : Int32))] [(.int (Int32.ofNat (((own_L nn c0 c1 c2 c3).drop su).take (eu - su)).length))])) _
              refine own_back (fun t k => XS.iload X732.here hx rfl (hb hby at_254) rfl k) ?_
              show OwnGo p e below (T732.setTop (mkF m 256 #[.val (.int p1), .val (.int p2), .val (.int p3), .val (.int p4), .val (.int p5), .val (.int (Int32.ofNat nn)), .val (.int c0), .val (.int c1), .val (.int c2), .val (.int c3), .val (.ref b658), .val (.ref am708), .val (.int k0), .val (.int k1), .val (.int k2), .val (.int k3), .val (.int (Int32.ofNat su)), .val (.int (Int32.ofNat eu)), .val (.ref at720), .val (.int (2 : Int32))] [(.int (2 : Int32)), (.int (Int32.ofNat (((own_L nn c0 c1 c2 c3).drop su).take (eu - su)).length))])) _
              refine own_back (fun t k => XS.icmpYes X732.here hx rfl (pc0 := 256) (pc' := 261) rfl (hb hby at_256) rfl (Jvm.Free.XT.ii_eq_t (by rw [own_rl _ su eu hbl (by omega), hm]; rfl)) (by decide) (by decide) k) ?_
              show OwnGo p e below (T732.setTop (mkF m 261 #[.val (.int p1), .val (.int p2), .val (.int p3), .val (.int p4), .val (.int p5), .val (.int (Int32.ofNat nn)), .val (.int c0), .val (.int c1), .val (.int c2), .val (.int c3), .val (.ref b658), .val (.ref am708), .val (.int k0), .val (.int k1), .val (.int k2), .val (.int k3), .val (.int (Int32.ofNat su)), .val (.int (Int32.ofNat eu)), .val (.ref at720), .val (.int (2 : Int32))] [])) _
              refine own_back (fun t k => XS.iload X732.here hx rfl (hb hby at_261) rfl k) ?_
              show OwnGo p e below (T732.setTop (mkF m 263 #[.val (.int p1), .val (.int p2), .val (.int p3), .val (.int p4), .val (.int p5), .val (.int (Int32.ofNat nn)), .val (.int c0), .val (.int c1), .val (.int c2), .val (.int c3), .val (.ref b658), .val (.ref am708), .val (.int k0), .val (.int k1), .val (.int k2), .val (.int k3), .val (.int (Int32.ofNat su)), .val (.int (Int32.ofNat eu)), .val (.ref at720), .val (.int (2 : Int32))] [(.int (2 : Int32))])) _
              refine own_back (fun t k => XS.ifNo X732.here hx rfl (hb hby at_263) rfl (Jvm.Free.XT.i0_le_f (by decide)) k) ?_
              show OwnGo p e below (T732.setTop (mkF m 266 #[.val (.int p1), .val (.int p2), .val (.int p3), .val (.int p4), .val (.int p5), .val (.int (Int32.ofNat nn)), .val (.int c0), .val (.int c1), .val (.int c2), .val (.int c3), .val (.ref b658), .val (.ref am708), .val (.int k0), .val (.int k1), .val (.int k2), .val (.int k3), .val (.int (Int32.ofNat su)), .val (.int (Int32.ofNat eu)), .val (.ref at720), .val (.int (2 : Int32))] [])) _
              refine own_back (fun t k => XS.aload X732.here hx rfl (hb hby at_266) rfl rfl k) ?_
              show OwnGo p e below (T732.setTop (mkF m 268 #[.val (.int p1), .val (.int p2), .val (.int p3), .val (.int p4), .val (.int p5), .val (.int (Int32.ofNat nn)), .val (.int c0), .val (.int c1), .val (.int c2), .val (.int c3), .val (.ref b658), .val (.ref am708), .val (.int k0), .val (.int k1), .val (.int k2), .val (.int k3), .val (.int (Int32.ofNat su)), .val (.int (Int32.ofNat eu)), .val (.ref at720), .val (.int (2 : Int32))] [(.ref at720)])) _
              refine own_back (fun t k => XS.iconst X732.here hx rfl (hb hby at_268) k) ?_
              show OwnGo p e below (T732.setTop (mkF m 269 #[.val (.int p1), .val (.int p2), .val (.int p3), .val (.int p4), .val (.int p5), .val (.int (Int32.ofNat nn)), .val (.int c0), .val (.int c1), .val (.int c2), .val (.int c3), .val (.ref b658), .val (.ref am708), .val (.int k0), .val (.int k1), .val (.int k2), .val (.int k3), .val (.int (Int32.ofNat su)), .val (.int (Int32.ofNat eu)), .val (.ref at720), .val (.int (2 : Int32))] [(.int (0 : Int32)), (.ref at720)])) _
              obtain ⟨cq733, kq733, q733a, q733b, q733c⟩ := isOf hZr720 hh732 B720.exa
              obtain ⟨_, _, ⟨T733, L733, k733, n733⟩, -, X733, ⟨Lc733, hQ733, l733, y733, z733⟩, st733⟩ := X732.virtualBack hx (y := (⟨"java/lang/String", "charAt", "(I)C"⟩ : MethodName)) (z := (⟨"java/lang/String", "charAt", "(I)C"⟩ : MethodName)) hownr720 (mvT hZr720 (hw _ (List.mem_of_getElem? (i := 121) rfl))) (mvT hZr720 (hw _ (List.mem_of_getElem? (i := 74) rfl))) (notFace_of_selects (args := #[]) (mvT hZr720 (hw _ (List.mem_of_getElem? (i := 76) rfl)))) (mvT hZr720 (hw _ (List.mem_of_getElem? (i := 76) rfl))) (mvT hZr720 (hw _ (List.mem_of_getElem? (i := 75) rfl))) (by decide) (own_backN (W := 0) (rm_ch l Z a0 hw [] at720 (((own_L nn c0 c1 c2 c3).drop su).take (eu - su)) 0 cz fm T720.heap n0 Zs723 O721 B720 (by rw [own_rl _ su eu hbl (by omega), hm]; decide) SC hcz SO hfm) hZr720 (hw _ (List.mem_of_getElem? (i := 77) rfl)) (hw _ (List.mem_of_getElem? (i := 11) rfl)) (by decide) (by decide)) q733a q733c (g := (mkF m 269 #[.val (.int p1), .val (.int p2), .val (.int p3), .val (.int p4), .val (.int p5), .val (.int (Int32.ofNat nn)), .val (.int c0), .val (.int c1), .val (.int c2), .val (.int c3), .val (.ref b658), .val (.ref am708), .val (.int k0), .val (.int k1), .val (.int k2), .val (.int k3), .val (.int (Int32.ofNat su)), .val (.int (Int32.ofNat eu)), .val (.ref at720), .val (.int (2 : Int32))] [(.int (0 : Int32)), (.ref at720)])) rfl (by rw [hml]; rfl) (Steps.refl _) (argsL := [(.int (0 : Int32))]) (rest := []) (lenOf lw_pd0 rfl) rfl (by show 2 * 0 + _ ≤ _; exact Nat.le_of_eq rfl) (hb hby at_269) (fun _ _ => ⟨rfl, hh732, Nat.le_of_ble_eq_true rfl, Nat.le_of_ble_eq_true rfl⟩)
              dsimp only [Pt.U, Pt.locs, Pt.cells, Pt.slots] at X733 l733 y733 z733 st733 hQ733
              subst l733 y733 z733
              obtain ⟨rfl, N733q, hh733⟩ := hQ733
              refine own_seq st733 ?_
              have N733 := Fr.app N732 N733q
              show OwnGo p e below (T733.setTop (mkF m 272 #[.val (.int p1), .val (.int p2), .val (.int p3), .val (.int p4), .val (.int p5), .val (.int (Int32.ofNat nn)), .val (.int c0), .val (.int c1), .val (.int c2), .val (.int c3), .val (.ref b658), .val (.ref am708), .val (.int k0), .val (.int k1), .val (.int k2), .val (.int k3), .val (.int (Int32.ofNat su)), .val (.int (Int32.ofNat eu)), .val (.ref at720), .val (.int (2 : Int32))] [(.int (own_ch ((((own_L nn c0 c1 c2 c3).drop su).take (eu - su)).getD 0 0)))])) _
              refine own_back (fun t k => XS.aload X733.here hx rfl (hb hby at_272) rfl rfl k) ?_
              show OwnGo p e below (T733.setTop (mkF m 274 #[.val (.int p1), .val (.int p2), .val (.int p3), .val (.int p4), .val (.int p5), .val (.int (Int32.ofNat nn)), .val (.int c0), .val (.int c1), .val (.int c2), .val (.int c3), .val (.ref b658), .val (.ref am708), .val (.int k0), .val (.int k1), .val (.int k2), .val (.int k3), .val (.int (Int32.ofNat su)), .val (.int (Int32.ofNat eu)), .val (.ref at720), .val (.int (2 : Int32))] [(.ref b658), (.int (own_ch ((((own_L nn c0 c1 c2 c3).drop su).take (eu - su)).getD 0 0)))])) _
              refine own_back (fun t k => XS.iload X733.here hx rfl (hb hby at_274) rfl k) ?_
              show OwnGo p e below (T733.setTop (mkF m 276 #[.val (.int p1), .val (.int p2), .val (.int p3), .val (.int p4), .val (.int p5), .val (.int (Int32.ofNat nn)), .val (.int c0), .val (.int c1), .val (.int c2), .val (.int c3), .val (.ref b658), .val (.ref am708), .val (.int k0), .val (.int k1), .val (.int k2), .val (.int k3), .val (.int (Int32.ofNat su)), .val (.int (Int32.ofNat eu)), .val (.ref at720), .val (.int (2 : Int32))] [(.int (Int32.ofNat su)), (.ref b658), (.int (own_ch ((((own_L nn c0 c1 c2 c3).drop su).take (eu - su)).getD 0 0)))])) _
              obtain ⟨c734, A734, q734, S734, M734, H734, U734⟩ := id f726
              have ib735 : ¬ ((Int32.ofNat su) < 0 ∨ c734.slots.size ≤ ((Int32.ofNat su)).toNatClampNeg) := (inb_of S734 ⟨own_nn (by omega), own_lti (i := su) (n := 4) (by decide) (by omega)⟩)
              refine own_back (fun t k => X733.caload hx (j := (Int32.ofNat su)) (v := (.int (nar .char ([c0, c1, c2, c3].getD su 0)))) (own_hat hh733 A734.1) (State.isArrayOf_alike hZr720.alike A734.2.1) A734.2.2 ib735 (H734.at ib735 (own_cs c0 c1 c2 c3 (by omega))) (g := (mkF m 276 #[.val (.int p1), .val (.int p2), .val (.int p3), .val (.int p4), .val (.int p5), .val (.int (Int32.ofNat nn)), .val (.int c0), .val (.int c1), .val (.int c2), .val (.int c3), .val (.ref b658), .val (.ref am708), .val (.int k0), .val (.int k1), .val (.int k2), .val (.int k3), .val (.int (Int32.ofNat su)), .val (.int (Int32.ofNat eu)), .val (.ref at720), .val (.int (2 : Int32))] [(.int (Int32.ofNat su)), (.ref b658), (.int (own_ch ((((own_L nn c0 c1 c2 c3).drop su).take (eu - su)).getD 0 0)))])) rfl rfl (hb hby at_276) t k) ?_
              show OwnGo p e below (T733.setTop (mkF m 277 #[.val (.int p1), .val (.int p2), .val (.int p3), .val (.int p4), .val (.int p5), .val (.int (Int32.ofNat nn)), .val (.int c0), .val (.int c1), .val (.int c2), .val (.int c3), .val (.ref b658), .val (.ref am708), .val (.int k0), .val (.int k1), .val (.int k2), .val (.int k3), .val (.int (Int32.ofNat su)), .val (.int (Int32.ofNat eu)), .val (.ref at720), .val (.int (2 : Int32))] [(.int (nar .char ([c0, c1, c2, c3].getD su 0))), (.int (own_ch ((((own_L nn c0 c1 c2 c3).drop su).take (eu - su)).getD 0 0)))])) _
              refine own_back (fun t k => XS.icmpYes X733.here hx rfl (pc0 := 277) (pc' := 282) rfl (hb hby at_277) rfl (Jvm.Free.XT.ii_eq_t ((own_at2 c0 c1 c2 c3 r0 r1 r2 r3 hn (su := su) (mu := eu - su) (q := 0) (by omega) (by omega)).trans (own_nar (own_rget r0 r1 r2 r3 (by omega))).symm)) (by decide) (by decide) k) ?_
              show OwnGo p e below (T733.setTop (mkF m 282 #[.val (.int p1), .val (.int p2), .val (.int p3), .val (.int p4), .val (.int p5), .val (.int (Int32.ofNat nn)), .val (.int c0), .val (.int c1), .val (.int c2), .val (.int c3), .val (.ref b658), .val (.ref am708), .val (.int k0), .val (.int k1), .val (.int k2), .val (.int k3), .val (.int (Int32.ofNat su)), .val (.int (Int32.ofNat eu)), .val (.ref at720), .val (.int (2 : Int32))] [])) _
              refine own_back (fun t k => XS.iload X733.here hx rfl (hb hby at_282) rfl k) ?_
              show OwnGo p e below (T733.setTop (mkF m 284 #[.val (.int p1), .val (.int p2), .val (.int p3), .val (.int p4), .val (.int p5), .val (.int (Int32.ofNat nn)), .val (.int c0), .val (.int c1), .val (.int c2), .val (.int c3), .val (.ref b658), .val (.ref am708), .val (.int k0), .val (.int k1), .val (.int k2), .val (.int k3), .val (.int (Int32.ofNat su)), .val (.int (Int32.ofNat eu)), .val (.ref at720), .val (.int (2 : Int32))] [(.int (2 : Int32))])) _
              refine own_back (fun t k => XS.iconst X733.here hx rfl (hb hby at_284) k) ?_
              show OwnGo p e below (T733.setTop (mkF m 285 #[.val (.int p1), .val (.int p2), .val (.int p3), .val (.int p4), .val (.int p5), .val (.int (Int32.ofNat nn)), .val (.int c0), .val (.int c1), .val (.int c2), .val (.int c3), .val (.ref b658), .val (.ref am708), .val (.int k0), .val (.int k1), .val (.int k2), .val (.int k3), .val (.int (Int32.ofNat su)), .val (.int (Int32.ofNat eu)), .val (.ref at720), .val (.int (2 : Int32))] [(.int (1 : Int32)), (.int (2 : Int32))])) _
              refine own_back (fun t k => XS.icmpNo X733.here hx rfl (hb hby at_285) rfl (Jvm.Free.XT.ii_le_f (by decide)) k) ?_
              show OwnGo p e below (T733.setTop (mkF m 288 #[.val (.int p1), .val (.int p2), .val (.int p3), .val (.int p4), .val (.int p5), .val (.int (Int32.ofNat nn)), .val (.int c0), .val (.int c1), .val (.int c2), .val (.int c3), .val (.ref b658), .val (.ref am708), .val (.int k0), .val (.int k1), .val (.int k2), .val (.int k3), .val (.int (Int32.ofNat su)), .val (.int (Int32.ofNat eu)), .val (.ref at720), .val (.int (2 : Int32))] [])) _
              refine own_back (fun t k => XS.aload X733.here hx rfl (hb hby at_288) rfl rfl k) ?_
              show OwnGo p e below (T733.setTop (mkF m 290 #[.val (.int p1), .val (.int p2), .val (.int p3), .val (.int p4), .val (.int p5), .val (.int (Int32.ofNat nn)), .val (.int c0), .val (.int c1), .val (.int c2), .val (.int c3), .val (.ref b658), .val (.ref am708), .val (.int k0), .val (.int k1), .val (.int k2), .val (.int k3), .val (.int (Int32.ofNat su)), .val (.int (Int32.ofNat eu)), .val (.ref at720), .val (.int (2 : Int32))] [(.ref at720)])) _
              refine own_back (fun t k => XS.iconst X733.here hx rfl (hb hby at_290) k) ?_
              show OwnGo p e below (T733.setTop (mkF m 291 #[.val (.int p1), .val (.int p2), .val (.int p3), .val (.int p4), .val (.int p5), .val (.int (Int32.ofNat nn)), .val (.int c0), .val (.int c1), .val (.int c2), .val (.int c3), .val (.ref b658), .val (.ref am708), .val (.int k0), .val (.int k1), .val (.int k2), .val (.int k3), .val (.int (Int32.ofNat su)), .val (.int (Int32.ofNat eu)), .val (.ref at720), .val (.int (2 : Int32))] [(.int (1 : Int32)), (.ref at720)])) _
              obtain ⟨cq736, kq736, q736a, q736b, q736c⟩ := isOf hZr720 hh733 B720.exa
              obtain ⟨_, _, ⟨T736, L736, k736, n736⟩, -, X736, ⟨Lc736, hQ736, l736, y736, z736⟩, st736⟩ := X733.virtualBack hx (y := (⟨"java/lang/String", "charAt", "(I)C"⟩ : MethodName)) (z := (⟨"java/lang/String", "charAt", "(I)C"⟩ : MethodName)) hownr720 (mvT hZr720 (hw _ (List.mem_of_getElem? (i := 121) rfl))) (mvT hZr720 (hw _ (List.mem_of_getElem? (i := 74) rfl))) (notFace_of_selects (args := #[]) (mvT hZr720 (hw _ (List.mem_of_getElem? (i := 76) rfl)))) (mvT hZr720 (hw _ (List.mem_of_getElem? (i := 76) rfl))) (mvT hZr720 (hw _ (List.mem_of_getElem? (i := 75) rfl))) (by decide) (own_backN (W := 0) (rm_ch l Z a0 hw [] at720 (((own_L nn c0 c1 c2 c3).drop su).take (eu - su)) 1 cz fm T720.heap n0 Zs723 O721 B720 (by rw [own_rl _ su eu hbl (by omega), hm]; decide) SC hcz SO hfm) hZr720 (hw _ (List.mem_of_getElem? (i := 77) rfl)) (hw _ (List.mem_of_getElem? (i := 11) rfl)) (by decide) (by decide)) q736a q736c (g := (mkF m 291 #[.val (.int p1), .val (.int p2), .val (.int p3), .val (.int p4), .val (.int p5), .val (.int (Int32.ofNat nn)), .val (.int c0), .val (.int c1), .val (.int c2), .val (.int c3), .val (.ref b658), .val (.ref am708), .val (.int k0), .val (.int k1), .val (.int k2), .val (.int k3), .val (.int (Int32.ofNat su)), .val (.int (Int32.ofNat eu)), .val (.ref at720), .val (.int (2 : Int32))] [(.int (1 : Int32)), (.ref at720)])) rfl (by rw [hml]; rfl) (Steps.refl _) (argsL := [(.int (1 : Int32))]) (rest := []) (lenOf lw_pd0 rfl) rfl (by show 2 * 0 + _ ≤ _; exact Nat.le_of_eq rfl) (hb hby at_291) (fun _ _ => ⟨rfl, hh733, Nat.le_of_ble_eq_true rfl, Nat.le_of_ble_eq_true rfl⟩)
              dsimp only [Pt.U, Pt.locs, Pt.cells, Pt.slots] at X736 l736 y736 z736 st736 hQ736
              subst l736 y736 z736
              obtain ⟨rfl, N736q, hh736⟩ := hQ736
              refine own_seq st736 ?_
              have N736 := Fr.app N733 N736q
              show OwnGo p e below (T736.setTop (mkF m 294 #[.val (.int p1), .val (.int p2), .val (.int p3), .val (.int p4), .val (.int p5), .val (.int (Int32.ofNat nn)), .val (.int c0), .val (.int c1), .val (.int c2), .val (.int c3), .val (.ref b658), .val (.ref am708), .val (.int k0), .val (.int k1), .val (.int k2), .val (.int k3), .val (.int (Int32.ofNat su)), .val (.int (Int32.ofNat eu)), .val (.ref at720), .val (.int (2 : Int32))] [(.int (own_ch ((((own_L nn c0 c1 c2 c3).drop su).take (eu - su)).getD 1 0)))])) _
              refine own_back (fun t k => XS.aload X736.here hx rfl (hb hby at_294) rfl rfl k) ?_
              show OwnGo p e below (T736.setTop (mkF m 296 #[.val (.int p1), .val (.int p2), .val (.int p3), .val (.int p4), .val (.int p5), .val (.int (Int32.ofNat nn)), .val (.int c0), .val (.int c1), .val (.int c2), .val (.int c3), .val (.ref b658), .val (.ref am708), .val (.int k0), .val (.int k1), .val (.int k2), .val (.int k3), .val (.int (Int32.ofNat su)), .val (.int (Int32.ofNat eu)), .val (.ref at720), .val (.int (2 : Int32))] [(.ref b658), (.int (own_ch ((((own_L nn c0 c1 c2 c3).drop su).take (eu - su)).getD 1 0)))])) _
              refine own_back (fun t k => XS.iload X736.here hx rfl (hb hby at_296) rfl k) ?_
              show OwnGo p e below (T736.setTop (mkF m 298 #[.val (.int p1), .val (.int p2), .val (.int p3), .val (.int p4), .val (.int p5), .val (.int (Int32.ofNat nn)), .val (.int c0), .val (.int c1), .val (.int c2), .val (.int c3), .val (.ref b658), .val (.ref am708), .val (.int k0), .val (.int k1), .val (.int k2), .val (.int k3), .val (.int (Int32.ofNat su)), .val (.int (Int32.ofNat eu)), .val (.ref at720), .val (.int (2 : Int32))] [(.int (Int32.ofNat su)), (.ref b658), (.int (own_ch ((((own_L nn c0 c1 c2 c3).drop su).take (eu - su)).getD 1 0)))])) _
              refine own_back (fun t k => XS.iconst X736.here hx rfl (hb hby at_298) k) ?_
              show OwnGo p e below (T736.setTop (mkF m 299 #[.val (.int p1), .val (.int p2), .val (.int p3), .val (.int p4), .val (.int p5), .val (.int (Int32.ofNat nn)), .val (.int c0), .val (.int c1), .val (.int c2), .val (.int c3), .val (.ref b658), .val (.ref am708), .val (.int k0), .val (.int k1), .val (.int k2), .val (.int k3), .val (.int (Int32.ofNat su)), .val (.int (Int32.ofNat eu)), .val (.ref at720), .val (.int (2 : Int32))] [(.int (1 : Int32)), (.int (Int32.ofNat su)), (.ref b658), (.int (own_ch ((((own_L nn c0 c1 c2 c3).drop su).take (eu - su)).getD 1 0)))])) _
              refine own_back (fun t k => XS.iadd X736.here hx rfl (hb hby at_299) rfl k) ?_
              show OwnGo p e below (T736.setTop (mkF m 300 #[.val (.int p1), .val (.int p2), .val (.int p3), .val (.int p4), .val (.int p5), .val (.int (Int32.ofNat nn)), .val (.int c0), .val (.int c1), .val (.int c2), .val (.int c3), .val (.ref b658), .val (.ref am708), .val (.int k0), .val (.int k1), .val (.int k2), .val (.int k3), .val (.int (Int32.ofNat su)), .val (.int (Int32.ofNat eu)), .val (.ref at720), .val (.int (2 : Int32))] [(.int ((Int32.ofNat su) + (1 : Int32))), (.ref b658), (.int (own_ch ((((own_L nn c0 c1 c2 c3).drop su).take (eu - su)).getD 1 0)))])) _
              rw [show (Int32.ofNat su) + (1 : Int32) = Int32.ofNat (su + 1) from (Int32.ofNat_add su 1).symm]
              show OwnGo p e below (T736.setTop (mkF m 300 #[.val (.int p1), .val (.int p2), .val (.int p3), .val (.int p4), .val (.int p5), .val (.int (Int32.ofNat nn)), .val (.int c0), .val (.int c1), .val (.int c2), .val (.int c3), .val (.ref b658), .val (.ref am708), .val (.int k0), .val (.int k1), .val (.int k2), .val (.int k3), .val (.int (Int32.ofNat su)), .val (.int (Int32.ofNat eu)), .val (.ref at720), .val (.int (2 : Int32))] [(.int (Int32.ofNat (su + 1))), (.ref b658), (.int (own_ch ((((own_L nn c0 c1 c2 c3).drop su).take (eu - su)).getD 1 0)))])) _
              obtain ⟨c737, A737, q737, S737, M737, H737, U737⟩ := id f726
              have ib738 : ¬ ((Int32.ofNat (su + 1)) < 0 ∨ c737.slots.size ≤ ((Int32.ofNat (su + 1))).toNatClampNeg) := (inb_of S737 ⟨own_nn (by omega), own_lti (i := (su + 1)) (n := 4) (by decide) (by omega)⟩)
              refine own_back (fun t k => X736.caload hx (j := (Int32.ofNat (su + 1))) (v := (.int (nar .char ([c0, c1, c2, c3].getD (su + 1) 0)))) (own_hat hh736 A737.1) (State.isArrayOf_alike hZr720.alike A737.2.1) A737.2.2 ib738 (H737.at ib738 (own_cs c0 c1 c2 c3 (by omega))) (g := (mkF m 300 #[.val (.int p1), .val (.int p2), .val (.int p3), .val (.int p4), .val (.int p5), .val (.int (Int32.ofNat nn)), .val (.int c0), .val (.int c1), .val (.int c2), .val (.int c3), .val (.ref b658), .val (.ref am708), .val (.int k0), .val (.int k1), .val (.int k2), .val (.int k3), .val (.int (Int32.ofNat su)), .val (.int (Int32.ofNat eu)), .val (.ref at720), .val (.int (2 : Int32))] [(.int (Int32.ofNat (su + 1))), (.ref b658), (.int (own_ch ((((own_L nn c0 c1 c2 c3).drop su).take (eu - su)).getD 1 0)))])) rfl rfl (hb hby at_300) t k) ?_
              show OwnGo p e below (T736.setTop (mkF m 301 #[.val (.int p1), .val (.int p2), .val (.int p3), .val (.int p4), .val (.int p5), .val (.int (Int32.ofNat nn)), .val (.int c0), .val (.int c1), .val (.int c2), .val (.int c3), .val (.ref b658), .val (.ref am708), .val (.int k0), .val (.int k1), .val (.int k2), .val (.int k3), .val (.int (Int32.ofNat su)), .val (.int (Int32.ofNat eu)), .val (.ref at720), .val (.int (2 : Int32))] [(.int (nar .char ([c0, c1, c2, c3].getD (su + 1) 0))), (.int (own_ch ((((own_L nn c0 c1 c2 c3).drop su).take (eu - su)).getD 1 0)))])) _
              refine own_back (fun t k => XS.icmpYes X736.here hx rfl (pc0 := 301) (pc' := 306) rfl (hb hby at_301) rfl (Jvm.Free.XT.ii_eq_t ((own_at2 c0 c1 c2 c3 r0 r1 r2 r3 hn (su := su) (mu := eu - su) (q := 1) (by omega) (by omega)).trans (own_nar (own_rget r0 r1 r2 r3 (by omega))).symm)) (by decide) (by decide) k) ?_
              show OwnGo p e below (T736.setTop (mkF m 306 #[.val (.int p1), .val (.int p2), .val (.int p3), .val (.int p4), .val (.int p5), .val (.int (Int32.ofNat nn)), .val (.int c0), .val (.int c1), .val (.int c2), .val (.int c3), .val (.ref b658), .val (.ref am708), .val (.int k0), .val (.int k1), .val (.int k2), .val (.int k3), .val (.int (Int32.ofNat su)), .val (.int (Int32.ofNat eu)), .val (.ref at720), .val (.int (2 : Int32))] [])) _
              refine own_back (fun t k => XS.iload X736.here hx rfl (hb hby at_306) rfl k) ?_
              show OwnGo p e below (T736.setTop (mkF m 308 #[.val (.int p1), .val (.int p2), .val (.int p3), .val (.int p4), .val (.int p5), .val (.int (Int32.ofNat nn)), .val (.int c0), .val (.int c1), .val (.int c2), .val (.int c3), .val (.ref b658), .val (.ref am708), .val (.int k0), .val (.int k1), .val (.int k2), .val (.int k3), .val (.int (Int32.ofNat su)), .val (.int (Int32.ofNat eu)), .val (.ref at720), .val (.int (2 : Int32))] [(.int (2 : Int32))])) _
              refine own_back (fun t k => XS.iconst X736.here hx rfl (hb hby at_308) k) ?_
              show OwnGo p e below (T736.setTop (mkF m 309 #[.val (.int p1), .val (.int p2), .val (.int p3), .val (.int p4), .val (.int p5), .val (.int (Int32.ofNat nn)), .val (.int c0), .val (.int c1), .val (.int c2), .val (.int c3), .val (.ref b658), .val (.ref am708), .val (.int k0), .val (.int k1), .val (.int k2), .val (.int k3), .val (.int (Int32.ofNat su)), .val (.int (Int32.ofNat eu)), .val (.ref at720), .val (.int (2 : Int32))] [(.int (2 : Int32)), (.int (2 : Int32))])) _
              refine own_back (fun t k => XS.icmpYes X736.here hx rfl (pc0 := 309) (pc' := 330) rfl (hb hby at_309) rfl (Jvm.Free.XT.ii_le_t (by decide)) (by decide) (by decide) k) ?_
              show OwnGo p e below (T736.setTop (mkF m 330 #[.val (.int p1), .val (.int p2), .val (.int p3), .val (.int p4), .val (.int p5), .val (.int (Int32.ofNat nn)), .val (.int c0), .val (.int c1), .val (.int c2), .val (.int c3), .val (.ref b658), .val (.ref am708), .val (.int k0), .val (.int k1), .val (.int k2), .val (.int k3), .val (.int (Int32.ofNat su)), .val (.int (Int32.ofNat eu)), .val (.ref at720), .val (.int (2 : Int32))] [])) _
              refine own_back (fun t k => XS.iload X736.here hx rfl (hb hby at_330) rfl k) ?_
              show OwnGo p e below (T736.setTop (mkF m 332 #[.val (.int p1), .val (.int p2), .val (.int p3), .val (.int p4), .val (.int p5), .val (.int (Int32.ofNat nn)), .val (.int c0), .val (.int c1), .val (.int c2), .val (.int c3), .val (.ref b658), .val (.ref am708), .val (.int k0), .val (.int k1), .val (.int k2), .val (.int k3), .val (.int (Int32.ofNat su)), .val (.int (Int32.ofNat eu)), .val (.ref at720), .val (.int (2 : Int32))] [(.int (2 : Int32))])) _
              refine own_back (fun t k => XS.iconst X736.here hx rfl (hb hby at_332) k) ?_
              show OwnGo p e below (T736.setTop (mkF m 333 #[.val (.int p1), .val (.int p2), .val (.int p3), .val (.int p4), .val (.int p5), .val (.int (Int32.ofNat nn)), .val (.int c0), .val (.int c1), .val (.int c2), .val (.int c3), .val (.ref b658), .val (.ref am708), .val (.int k0), .val (.int k1), .val (.int k2), .val (.int k3), .val (.int (Int32.ofNat su)), .val (.int (Int32.ofNat eu)), .val (.ref at720), .val (.int (2 : Int32))] [(.int (3 : Int32)), (.int (2 : Int32))])) _
              refine own_back (fun t k => XS.icmpYes X736.here hx rfl (pc0 := 333) (pc' := 354) rfl (hb hby at_333) rfl (Jvm.Free.XT.ii_le_t (by decide)) (by decide) (by decide) k) ?_
              show OwnGo p e below (T736.setTop (mkF m 354 #[.val (.int p1), .val (.int p2), .val (.int p3), .val (.int p4), .val (.int p5), .val (.int (Int32.ofNat nn)), .val (.int c0), .val (.int c1), .val (.int c2), .val (.int c3), .val (.ref b658), .val (.ref am708), .val (.int k0), .val (.int k1), .val (.int k2), .val (.int k3), .val (.int (Int32.ofNat su)), .val (.int (Int32.ofNat eu)), .val (.ref at720), .val (.int (2 : Int32))] [])) _
              refine own_back (fun t k => XS.iconst X736.here hx rfl (hb hby at_354) k) ?_
              show OwnGo p e below (T736.setTop (mkF m 355 #[.val (.int p1), .val (.int p2), .val (.int p3), .val (.int p4), .val (.int p5), .val (.int (Int32.ofNat nn)), .val (.int c0), .val (.int c1), .val (.int c2), .val (.int c3), .val (.ref b658), .val (.ref am708), .val (.int k0), .val (.int k1), .val (.int k2), .val (.int k3), .val (.int (Int32.ofNat su)), .val (.int (Int32.ofNat eu)), .val (.ref at720), .val (.int (2 : Int32))] [(.int (1 : Int32))])) _
              refine own_retNW X736 hx Bd.notSynchronized (t := .boolean) (z := (1 : Int32)) Bd.returns (by simp) rfl hSr720 (Nat.le_refl _) hZr720 hEL (hh ▸ CR724) (hb hby at_355) hh736 (Nat.le_of_ble_eq_true rfl) (Nat.le_of_ble_eq_true rfl) ?_
              exact ⟨rfl, N736⟩
            · rw [show (Int32.ofNat (eu - su)) = (3 : Int32) from congrArg Int32.ofNat hm]
              show OwnGo p e below (T720.setTop (mkF m 247 #[.val (.int p1), .val (.int p2), .val (.int p3), .val (.int p4), .val (.int p5), .val (.int (Int32.ofNat nn)), .val (.int c0), .val (.int c1), .val (.int c2), .val (.int c3), .val (.ref b658), .val (.ref am708), .val (.int k0), .val (.int k1), .val (.int k2), .val (.int k3), .val (.int (Int32.ofNat su)), .val (.int (Int32.ofNat eu)), .val (.ref at720), .unset] [(.int (3 : Int32))])) _
              refine own_back (fun t k => XS.istore Xr720.here hx rfl (hb hby at_247) rfl (l' := #[.val (.int p1), .val (.int p2), .val (.int p3), .val (.int p4), .val (.int p5), .val (.int (Int32.ofNat nn)), .val (.int c0), .val (.int c1), .val (.int c2), .val (.int c3), .val (.ref b658), .val (.ref am708), .val (.int k0), .val (.int k1), .val (.int k2), .val (.int k3), .val (.int (Int32.ofNat su)), .val (.int (Int32.ofNat eu)), .val (.ref at720), .val (.int (3 : Int32))]) rfl k) ?_
              show OwnGo p e below (T720.setTop (mkF m 249 #[.val (.int p1), .val (.int p2), .val (.int p3), .val (.int p4), .val (.int p5), .val (.int (Int32.ofNat nn)), .val (.int c0), .val (.int c1), .val (.int c2), .val (.int c3), .val (.ref b658), .val (.ref am708), .val (.int k0), .val (.int k1), .val (.int k2), .val (.int k3), .val (.int (Int32.ofNat su)), .val (.int (Int32.ofNat eu)), .val (.ref at720), .val (.int (3 : Int32))] [])) _
              refine own_back (fun t k => XS.aload Xr720.here hx rfl (hb hby at_249) rfl rfl k) ?_
              show OwnGo p e below (T720.setTop (mkF m 251 #[.val (.int p1), .val (.int p2), .val (.int p3), .val (.int p4), .val (.int p5), .val (.int (Int32.ofNat nn)), .val (.int c0), .val (.int c1), .val (.int c2), .val (.int c3), .val (.ref b658), .val (.ref am708), .val (.int k0), .val (.int k1), .val (.int k2), .val (.int k3), .val (.int (Int32.ofNat su)), .val (.int (Int32.ofNat eu)), .val (.ref at720), .val (.int (3 : Int32))] [(.ref at720)])) _
              obtain ⟨cq739, kq739, q739a, q739b, q739c⟩ := isOf hZr720 rfl B720.exa
              obtain ⟨_, _, ⟨T739, L739, k739, n739⟩, -, X739, ⟨Lc739, hQ739, l739, y739, z739⟩, st739⟩ := Xr720.virtualBack hx (y := (⟨"java/lang/String", "length", "()I"⟩ : MethodName)) (z := (⟨"java/lang/String", "length", "()I"⟩ : MethodName)) hownr720 (mvT hZr720 (hw _ (List.mem_of_getElem? (i := 59) rfl))) (mvT hZr720 (hw _ (List.mem_of_getElem? (i := 35) rfl))) (notFace_of_selects (args := #[]) (mvT hZr720 (hw _ (List.mem_of_getElem? (i := 37) rfl)))) (mvT hZr720 (hw _ (List.mem_of_getElem? (i := 37) rfl))) (mvT hZr720 (hw _ (List.mem_of_getElem? (i := 36) rfl))) (by decide) (own_backN (W := 0) (rm_len l Z a0 hw [] at720 (((own_L nn c0 c1 c2 c3).drop su).take (eu - su)) cz T720.heap n0 Zs723 O721 B720 SC hcz) hZr720 (hw _ (List.mem_of_getElem? (i := 38) rfl)) (hw _ (List.mem_of_getElem? (i := 11) rfl)) (by decide) (by decide)) q739a q739c (g := (mkF m 251 #[.val (.int p1), .val (.int p2), .val (.int p3), .val (.int p4), .val (.int p5), .val (.int (Int32.ofNat nn)), .val (.int c0), .val (.int c1), .val (.int c2), .val (.int c3), .val (.ref b658), .val (.ref am708), .val (.int k0), .val (.int k1), .val (.int k2), .val (.int k3), .val (.int (Int32.ofNat su)), .val (.int (Int32.ofNat eu)), .val (.ref at720), .val (.int (3 : Int32))] [(.ref at720)])) rfl (by rw [hml]; rfl) (Steps.refl _) (argsL := []) (rest := []) (lenOf lw_pd3 rfl) rfl (by show 2 * 0 + _ ≤ _; exact Nat.le_of_eq rfl) (hb hby at_251) (fun _ _ => ⟨rfl, rfl, Nat.le_of_ble_eq_true rfl, Nat.le_of_ble_eq_true rfl⟩)
              dsimp only [Pt.U, Pt.locs, Pt.cells, Pt.slots] at X739 l739 y739 z739 st739 hQ739
              subst l739 y739 z739
              obtain ⟨rfl, N739q, hh739⟩ := hQ739
              refine own_seq st739 ?_
              have N739 := Fr.app N720 N739q
              show OwnGo p e below (T739.setTop (mkF m 254 #[.val (.int p1), .val (.int p2), .val (.int p3), .val (.int p4), .val (.int p5), .val (.int (Int32.ofNat nn)), .val (.int c0), .val (.int c1), .val (.int c2), .val (.int c3), .val (.ref b658), .val (.ref am708), .val (.int k0), .val (.int k1), .val (.int k2), .val (.int k3), .val (.int (Int32.ofNat su)), .val (.int (Int32.ofNat eu)), .val (.ref at720), .val (.int (3 : Int32))] [(.int (Int32.ofNat (((own_L nn c0 c1 c2 c3).drop su).take (eu - su)).length))])) _
              refine own_back (fun t k => XS.iload X739.here hx rfl (hb hby at_254) rfl k) ?_
              show OwnGo p e below (T739.setTop (mkF m 256 #[.val (.int p1), .val (.int p2), .val (.int p3), .val (.int p4), .val (.int p5), .val (.int (Int32.ofNat nn)), .val (.int c0), .val (.int c1), .val (.int c2), .val (.int c3), .val (.ref b658), .val (.ref am708), .val (.int k0), .val (.int k1), .val (.int k2), .val (.int k3), .val (.int (Int32.ofNat su)), .val (.int (Int32.ofNat eu)), .val (.ref at720), .val (.int (3 : Int32))] [(.int (3 : Int32)), (.int (Int32.ofNat (((own_L nn c0 c1 c2 c3).drop su).take (eu - su)).length))])) _
              refine own_back (fun t k => XS.icmpYes X739.here hx rfl (pc0 := 256) (pc' := 261) rfl (hb hby at_256) rfl (Jvm.Free.XT.ii_eq_t (by rw [own_rl _ su eu hbl (by omega), hm]; rfl)) (by decide) (by decide) k) ?_
              show OwnGo p e below (T739.setTop (mkF m 261 #[.val (.int p1), .val (.int p2), .val (.int p3), .val (.int p4), .val (.int p5), .val (.int (Int32.ofNat nn)), .val (.int c0), .val (.int c1), .val (.int c2), .val (.int c3), .val (.ref b658), .val (.ref am708), .val (.int k0), .val (.int k1), .val (.int k2), .val (.int k3), .val (.int (Int32.ofNat su)), .val (.int (Int32.ofNat eu)), .val (.ref at720), .val (.int (3 : Int32))] [])) _
              refine own_back (fun t k => XS.iload X739.here hx rfl (hb hby at_261) rfl k) ?_
              show OwnGo p e below (T739.setTop (mkF m 263 #[.val (.int p1), .val (.int p2), .val (.int p3), .val (.int p4), .val (.int p5), .val (.int (Int32.ofNat nn)), .val (.int c0), .val (.int c1), .val (.int c2), .val (.int c3), .val (.ref b658), .val (.ref am708), .val (.int k0), .val (.int k1), .val (.int k2), .val (.int k3), .val (.int (Int32.ofNat su)), .val (.int (Int32.ofNat eu)), .val (.ref at720), .val (.int (3 : Int32))] [(.int (3 : Int32))])) _
              refine own_back (fun t k => XS.ifNo X739.here hx rfl (hb hby at_263) rfl (Jvm.Free.XT.i0_le_f (by decide)) k) ?_
              show OwnGo p e below (T739.setTop (mkF m 266 #[.val (.int p1), .val (.int p2), .val (.int p3), .val (.int p4), .val (.int p5), .val (.int (Int32.ofNat nn)), .val (.int c0), .val (.int c1), .val (.int c2), .val (.int c3), .val (.ref b658), .val (.ref am708), .val (.int k0), .val (.int k1), .val (.int k2), .val (.int k3), .val (.int (Int32.ofNat su)), .val (.int (Int32.ofNat eu)), .val (.ref at720), .val (.int (3 : Int32))] [])) _
              refine own_back (fun t k => XS.aload X739.here hx rfl (hb hby at_266) rfl rfl k) ?_
              show OwnGo p e below (T739.setTop (mkF m 268 #[.val (.int p1), .val (.int p2), .val (.int p3), .val (.int p4), .val (.int p5), .val (.int (Int32.ofNat nn)), .val (.int c0), .val (.int c1), .val (.int c2), .val (.int c3), .val (.ref b658), .val (.ref am708), .val (.int k0), .val (.int k1), .val (.int k2), .val (.int k3), .val (.int (Int32.ofNat su)), .val (.int (Int32.ofNat eu)), .val (.ref at720), .val (.int (3 : Int32))] [(.ref at720)])) _
              refine own_back (fun t k => XS.iconst X739.here hx rfl (hb hby at_268) k) ?_
              show OwnGo p e below (T739.setTop (mkF m 269 #[.val (.int p1), .val (.int p2), .val (.int p3), .val (.int p4), .val (.int p5), .val (.int (Int32.ofNat nn)), .val (.int c0), .val (.int c1), .val (.int c2), .val (.int c3), .val (.ref b658), .val (.ref am708), .val (.int k0), .val (.int k1), .val (.int k2), .val (.int k3), .val (.int (Int32.ofNat su)), .val (.int (Int32.ofNat eu)), .val (.ref at720), .val (.int (3 : Int32))] [(.int (0 : Int32)), (.ref at720)])) _
              obtain ⟨cq740, kq740, q740a, q740b, q740c⟩ := isOf hZr720 hh739 B720.exa
              obtain ⟨_, _, ⟨T740, L740, k740, n740⟩, -, X740, ⟨Lc740, hQ740, l740, y740, z740⟩, st740⟩ := X739.virtualBack hx (y := (⟨"java/lang/String", "charAt", "(I)C"⟩ : MethodName)) (z := (⟨"java/lang/String", "charAt", "(I)C"⟩ : MethodName)) hownr720 (mvT hZr720 (hw _ (List.mem_of_getElem? (i := 121) rfl))) (mvT hZr720 (hw _ (List.mem_of_getElem? (i := 74) rfl))) (notFace_of_selects (args := #[]) (mvT hZr720 (hw _ (List.mem_of_getElem? (i := 76) rfl)))) (mvT hZr720 (hw _ (List.mem_of_getElem? (i := 76) rfl))) (mvT hZr720 (hw _ (List.mem_of_getElem? (i := 75) rfl))) (by decide) (own_backN (W := 0) (rm_ch l Z a0 hw [] at720 (((own_L nn c0 c1 c2 c3).drop su).take (eu - su)) 0 cz fm T720.heap n0 Zs723 O721 B720 (by rw [own_rl _ su eu hbl (by omega), hm]; decide) SC hcz SO hfm) hZr720 (hw _ (List.mem_of_getElem? (i := 77) rfl)) (hw _ (List.mem_of_getElem? (i := 11) rfl)) (by decide) (by decide)) q740a q740c (g := (mkF m 269 #[.val (.int p1), .val (.int p2), .val (.int p3), .val (.int p4), .val (.int p5), .val (.int (Int32.ofNat nn)), .val (.int c0), .val (.int c1), .val (.int c2), .val (.int c3), .val (.ref b658), .val (.ref am708), .val (.int k0), .val (.int k1), .val (.int k2), .val (.int k3), .val (.int (Int32.ofNat su)), .val (.int (Int32.ofNat eu)), .val (.ref at720), .val (.int (3 : Int32))] [(.int (0 : Int32)), (.ref at720)])) rfl (by rw [hml]; rfl) (Steps.refl _) (argsL := [(.int (0 : Int32))]) (rest := []) (lenOf lw_pd0 rfl) rfl (by show 2 * 0 + _ ≤ _; exact Nat.le_of_eq rfl) (hb hby at_269) (fun _ _ => ⟨rfl, hh739, Nat.le_of_ble_eq_true rfl, Nat.le_of_ble_eq_true rfl⟩)
              dsimp only [Pt.U, Pt.locs, Pt.cells, Pt.slots] at X740 l740 y740 z740 st740 hQ740
              subst l740 y740 z740
              obtain ⟨rfl, N740q, hh740⟩ := hQ740
              refine own_seq st740 ?_
              have N740 := Fr.app N739 N740q
              show OwnGo p e below (T740.setTop (mkF m 272 #[.val (.int p1), .val (.int p2), .val (.int p3), .val (.int p4), .val (.int p5), .val (.int (Int32.ofNat nn)), .val (.int c0), .val (.int c1), .val (.int c2), .val (.int c3), .val (.ref b658), .val (.ref am708), .val (.int k0), .val (.int k1), .val (.int k2), .val (.int k3), .val (.int (Int32.ofNat su)), .val (.int (Int32.ofNat eu)), .val (.ref at720), .val (.int (3 : Int32))] [(.int (own_ch ((((own_L nn c0 c1 c2 c3).drop su).take (eu - su)).getD 0 0)))])) _
              refine own_back (fun t k => XS.aload X740.here hx rfl (hb hby at_272) rfl rfl k) ?_
              show OwnGo p e below (T740.setTop (mkF m 274 #[.val (.int p1), .val (.int p2), .val (.int p3), .val (.int p4), .val (.int p5), .val (.int (Int32.ofNat nn)), .val (.int c0), .val (.int c1), .val (.int c2), .val (.int c3), .val (.ref b658), .val (.ref am708), .val (.int k0), .val (.int k1), .val (.int k2), .val (.int k3), .val (.int (Int32.ofNat su)), .val (.int (Int32.ofNat eu)), .val (.ref at720), .val (.int (3 : Int32))] [(.ref b658), (.int (own_ch ((((own_L nn c0 c1 c2 c3).drop su).take (eu - su)).getD 0 0)))])) _
              refine own_back (fun t k => XS.iload X740.here hx rfl (hb hby at_274) rfl k) ?_
              show OwnGo p e below (T740.setTop (mkF m 276 #[.val (.int p1), .val (.int p2), .val (.int p3), .val (.int p4), .val (.int p5), .val (.int (Int32.ofNat nn)), .val (.int c0), .val (.int c1), .val (.int c2), .val (.int c3), .val (.ref b658), .val (.ref am708), .val (.int k0), .val (.int k1), .val (.int k2), .val (.int k3), .val (.int (Int32.ofNat su)), .val (.int (Int32.ofNat eu)), .val (.ref at720), .val (.int (3 : Int32))] [(.int (Int32.ofNat su)), (.ref b658), (.int (own_ch ((((own_L nn c0 c1 c2 c3).drop su).take (eu - su)).getD 0 0)))])) _
              obtain ⟨c741, A741, q741, S741, M741, H741, U741⟩ := id f726
              have ib742 : ¬ ((Int32.ofNat su) < 0 ∨ c741.slots.size ≤ ((Int32.ofNat su)).toNatClampNeg) := (inb_of S741 ⟨own_nn (by omega), own_lti (i := su) (n := 4) (by decide) (by omega)⟩)
              refine own_back (fun t k => X740.caload hx (j := (Int32.ofNat su)) (v := (.int (nar .char ([c0, c1, c2, c3].getD su 0)))) (own_hat hh740 A741.1) (State.isArrayOf_alike hZr720.alike A741.2.1) A741.2.2 ib742 (H741.at ib742 (own_cs c0 c1 c2 c3 (by omega))) (g := (mkF m 276 #[.val (.int p1), .val (.int p2), .val (.int p3), .val (.int p4), .val (.int p5), .val (.int (Int32.ofNat nn)), .val (.int c0), .val (.int c1), .val (.int c2), .val (.int c3), .val (.ref b658), .val (.ref am708), .val (.int k0), .val (.int k1), .val (.int k2), .val (.int k3), .val (.int (Int32.ofNat su)), .val (.int (Int32.ofNat eu)), .val (.ref at720), .val (.int (3 : Int32))] [(.int (Int32.ofNat su)), (.ref b658), (.int (own_ch ((((own_L nn c0 c1 c2 c3).drop su).take (eu - su)).getD 0 0)))])) rfl rfl (hb hby at_276) t k) ?_
              show OwnGo p e below (T740.setTop (mkF m 277 #[.val (.int p1), .val (.int p2), .val (.int p3), .val (.int p4), .val (.int p5), .val (.int (Int32.ofNat nn)), .val (.int c0), .val (.int c1), .val (.int c2), .val (.int c3), .val (.ref b658), .val (.ref am708), .val (.int k0), .val (.int k1), .val (.int k2), .val (.int k3), .val (.int (Int32.ofNat su)), .val (.int (Int32.ofNat eu)), .val (.ref at720), .val (.int (3 : Int32))] [(.int (nar .char ([c0, c1, c2, c3].getD su 0))), (.int (own_ch ((((own_L nn c0 c1 c2 c3).drop su).take (eu - su)).getD 0 0)))])) _
              refine own_back (fun t k => XS.icmpYes X740.here hx rfl (pc0 := 277) (pc' := 282) rfl (hb hby at_277) rfl (Jvm.Free.XT.ii_eq_t ((own_at2 c0 c1 c2 c3 r0 r1 r2 r3 hn (su := su) (mu := eu - su) (q := 0) (by omega) (by omega)).trans (own_nar (own_rget r0 r1 r2 r3 (by omega))).symm)) (by decide) (by decide) k) ?_
              show OwnGo p e below (T740.setTop (mkF m 282 #[.val (.int p1), .val (.int p2), .val (.int p3), .val (.int p4), .val (.int p5), .val (.int (Int32.ofNat nn)), .val (.int c0), .val (.int c1), .val (.int c2), .val (.int c3), .val (.ref b658), .val (.ref am708), .val (.int k0), .val (.int k1), .val (.int k2), .val (.int k3), .val (.int (Int32.ofNat su)), .val (.int (Int32.ofNat eu)), .val (.ref at720), .val (.int (3 : Int32))] [])) _
              refine own_back (fun t k => XS.iload X740.here hx rfl (hb hby at_282) rfl k) ?_
              show OwnGo p e below (T740.setTop (mkF m 284 #[.val (.int p1), .val (.int p2), .val (.int p3), .val (.int p4), .val (.int p5), .val (.int (Int32.ofNat nn)), .val (.int c0), .val (.int c1), .val (.int c2), .val (.int c3), .val (.ref b658), .val (.ref am708), .val (.int k0), .val (.int k1), .val (.int k2), .val (.int k3), .val (.int (Int32.ofNat su)), .val (.int (Int32.ofNat eu)), .val (.ref at720), .val (.int (3 : Int32))] [(.int (3 : Int32))])) _
              refine own_back (fun t k => XS.iconst X740.here hx rfl (hb hby at_284) k) ?_
              show OwnGo p e below (T740.setTop (mkF m 285 #[.val (.int p1), .val (.int p2), .val (.int p3), .val (.int p4), .val (.int p5), .val (.int (Int32.ofNat nn)), .val (.int c0), .val (.int c1), .val (.int c2), .val (.int c3), .val (.ref b658), .val (.ref am708), .val (.int k0), .val (.int k1), .val (.int k2), .val (.int k3), .val (.int (Int32.ofNat su)), .val (.int (Int32.ofNat eu)), .val (.ref at720), .val (.int (3 : Int32))] [(.int (1 : Int32)), (.int (3 : Int32))])) _
              refine own_back (fun t k => XS.icmpNo X740.here hx rfl (hb hby at_285) rfl (Jvm.Free.XT.ii_le_f (by decide)) k) ?_
              show OwnGo p e below (T740.setTop (mkF m 288 #[.val (.int p1), .val (.int p2), .val (.int p3), .val (.int p4), .val (.int p5), .val (.int (Int32.ofNat nn)), .val (.int c0), .val (.int c1), .val (.int c2), .val (.int c3), .val (.ref b658), .val (.ref am708), .val (.int k0), .val (.int k1), .val (.int k2), .val (.int k3), .val (.int (Int32.ofNat su)), .val (.int (Int32.ofNat eu)), .val (.ref at720), .val (.int (3 : Int32))] [])) _
              refine own_back (fun t k => XS.aload X740.here hx rfl (hb hby at_288) rfl rfl k) ?_
              show OwnGo p e below (T740.setTop (mkF m 290 #[.val (.int p1), .val (.int p2), .val (.int p3), .val (.int p4), .val (.int p5), .val (.int (Int32.ofNat nn)), .val (.int c0), .val (.int c1), .val (.int c2), .val (.int c3), .val (.ref b658), .val (.ref am708), .val (.int k0), .val (.int k1), .val (.int k2), .val (.int k3), .val (.int (Int32.ofNat su)), .val (.int (Int32.ofNat eu)), .val (.ref at720), .val (.int (3 : Int32))] [(.ref at720)])) _
              refine own_back (fun t k => XS.iconst X740.here hx rfl (hb hby at_290) k) ?_
              show OwnGo p e below (T740.setTop (mkF m 291 #[.val (.int p1), .val (.int p2), .val (.int p3), .val (.int p4), .val (.int p5), .val (.int (Int32.ofNat nn)), .val (.int c0), .val (.int c1), .val (.int c2), .val (.int c3), .val (.ref b658), .val (.ref am708), .val (.int k0), .val (.int k1), .val (.int k2), .val (.int k3), .val (.int (Int32.ofNat su)), .val (.int (Int32.ofNat eu)), .val (.ref at720), .val (.int (3 : Int32))] [(.int (1 : Int32)), (.ref at720)])) _
              obtain ⟨cq743, kq743, q743a, q743b, q743c⟩ := isOf hZr720 hh740 B720.exa
              obtain ⟨_, _, ⟨T743, L743, k743, n743⟩, -, X743, ⟨Lc743, hQ743, l743, y743, z743⟩, st743⟩ := X740.virtualBack hx (y := (⟨"java/lang/String", "charAt", "(I)C"⟩ : MethodName)) (z := (⟨"java/lang/String", "charAt", "(I)C"⟩ : MethodName)) hownr720 (mvT hZr720 (hw _ (List.mem_of_getElem? (i := 121) rfl))) (mvT hZr720 (hw _ (List.mem_of_getElem? (i := 74) rfl))) (notFace_of_selects (args := #[]) (mvT hZr720 (hw _ (List.mem_of_getElem? (i := 76) rfl)))) (mvT hZr720 (hw _ (List.mem_of_getElem? (i := 76) rfl))) (mvT hZr720 (hw _ (List.mem_of_getElem? (i := 75) rfl))) (by decide) (own_backN (W := 0) (rm_ch l Z a0 hw [] at720 (((own_L nn c0 c1 c2 c3).drop su).take (eu - su)) 1 cz fm T720.heap n0 Zs723 O721 B720 (by rw [own_rl _ su eu hbl (by omega), hm]; decide) SC hcz SO hfm) hZr720 (hw _ (List.mem_of_getElem? (i := 77) rfl)) (hw _ (List.mem_of_getElem? (i := 11) rfl)) (by decide) (by decide)) q743a q743c (g := (mkF m 291 #[.val (.int p1), .val (.int p2), .val (.int p3), .val (.int p4), .val (.int p5), .val (.int (Int32.ofNat nn)), .val (.int c0), .val (.int c1), .val (.int c2), .val (.int c3), .val (.ref b658), .val (.ref am708), .val (.int k0), .val (.int k1), .val (.int k2), .val (.int k3), .val (.int (Int32.ofNat su)), .val (.int (Int32.ofNat eu)), .val (.ref at720), .val (.int (3 : Int32))] [(.int (1 : Int32)), (.ref at720)])) rfl (by rw [hml]; rfl) (Steps.refl _) (argsL := [(.int (1 : Int32))]) (rest := []) (lenOf lw_pd0 rfl) rfl (by show 2 * 0 + _ ≤ _; exact Nat.le_of_eq rfl) (hb hby at_291) (fun _ _ => ⟨rfl, hh740, Nat.le_of_ble_eq_true rfl, Nat.le_of_ble_eq_true rfl⟩)
              dsimp only [Pt.U, Pt.locs, Pt.cells, Pt.slots] at X743 l743 y743 z743 st743 hQ743
              subst l743 y743 z743
              obtain ⟨rfl, N743q, hh743⟩ := hQ743
              refine own_seq st743 ?_
              have N743 := Fr.app N740 N743q
              show OwnGo p e below (T743.setTop (mkF m 294 #[.val (.int p1), .val (.int p2), .val (.int p3), .val (.int p4), .val (.int p5), .val (.int (Int32.ofNat nn)), .val (.int c0), .val (.int c1), .val (.int c2), .val (.int c3), .val (.ref b658), .val (.ref am708), .val (.int k0), .val (.int k1), .val (.int k2), .val (.int k3), .val (.int (Int32.ofNat su)), .val (.int (Int32.ofNat eu)), .val (.ref at720), .val (.int (3 : Int32))] [(.int (own_ch ((((own_L nn c0 c1 c2 c3).drop su).take (eu - su)).getD 1 0)))])) _
              refine own_back (fun t k => XS.aload X743.here hx rfl (hb hby at_294) rfl rfl k) ?_
              show OwnGo p e below (T743.setTop (mkF m 296 #[.val (.int p1), .val (.int p2), .val (.int p3), .val (.int p4), .val (.int p5), .val (.int (Int32.ofNat nn)), .val (.int c0), .val (.int c1), .val (.int c2), .val (.int c3), .val (.ref b658), .val (.ref am708), .val (.int k0), .val (.int k1), .val (.int k2), .val (.int k3), .val (.int (Int32.ofNat su)), .val (.int (Int32.ofNat eu)), .val (.ref at720), .val (.int (3 : Int32))] [(.ref b658), (.int (own_ch ((((own_L nn c0 c1 c2 c3).drop su).take (eu - su)).getD 1 0)))])) _
              refine own_back (fun t k => XS.iload X743.here hx rfl (hb hby at_296) rfl k) ?_
              show OwnGo p e below (T743.setTop (mkF m 298 #[.val (.int p1), .val (.int p2), .val (.int p3), .val (.int p4), .val (.int p5), .val (.int (Int32.ofNat nn)), .val (.int c0), .val (.int c1), .val (.int c2), .val (.int c3), .val (.ref b658), .val (.ref am708), .val (.int k0), .val (.int k1), .val (.int k2), .val (.int k3), .val (.int (Int32.ofNat su)), .val (.int (Int32.ofNat eu)), .val (.ref at720), .val (.int (3 : Int32))] [(.int (Int32.ofNat su)), (.ref b658), (.int (own_ch ((((own_L nn c0 c1 c2 c3).drop su).take (eu - su)).getD 1 0)))])) _
              refine own_back (fun t k => XS.iconst X743.here hx rfl (hb hby at_298) k) ?_
              show OwnGo p e below (T743.setTop (mkF m 299 #[.val (.int p1), .val (.int p2), .val (.int p3), .val (.int p4), .val (.int p5), .val (.int (Int32.ofNat nn)), .val (.int c0), .val (.int c1), .val (.int c2), .val (.int c3), .val (.ref b658), .val (.ref am708), .val (.int k0), .val (.int k1), .val (.int k2), .val (.int k3), .val (.int (Int32.ofNat su)), .val (.int (Int32.ofNat eu)), .val (.ref at720), .val (.int (3 : Int32))] [(.int (1 : Int32)), (.int (Int32.ofNat su)), (.ref b658), (.int (own_ch ((((own_L nn c0 c1 c2 c3).drop su).take (eu - su)).getD 1 0)))])) _
              refine own_back (fun t k => XS.iadd X743.here hx rfl (hb hby at_299) rfl k) ?_
              show OwnGo p e below (T743.setTop (mkF m 300 #[.val (.int p1), .val (.int p2), .val (.int p3), .val (.int p4), .val (.int p5), .val (.int (Int32.ofNat nn)), .val (.int c0), .val (.int c1), .val (.int c2), .val (.int c3), .val (.ref b658), .val (.ref am708), .val (.int k0), .val (.int k1), .val (.int k2), .val (.int k3), .val (.int (Int32.ofNat su)), .val (.int (Int32.ofNat eu)), .val (.ref at720), .val (.int (3 : Int32))] [(.int ((Int32.ofNat su) + (1 : Int32))), (.ref b658), (.int (own_ch ((((own_L nn c0 c1 c2 c3).drop su).take (eu - su)).getD 1 0)))])) _
              rw [show (Int32.ofNat su) + (1 : Int32) = Int32.ofNat (su + 1) from (Int32.ofNat_add su 1).symm]
              show OwnGo p e below (T743.setTop (mkF m 300 #[.val (.int p1), .val (.int p2), .val (.int p3), .val (.int p4), .val (.int p5), .val (.int (Int32.ofNat nn)), .val (.int c0), .val (.int c1), .val (.int c2), .val (.int c3), .val (.ref b658), .val (.ref am708), .val (.int k0), .val (.int k1), .val (.int k2), .val (.int k3), .val (.int (Int32.ofNat su)), .val (.int (Int32.ofNat eu)), .val (.ref at720), .val (.int (3 : Int32))] [(.int (Int32.ofNat (su + 1))), (.ref b658), (.int (own_ch ((((own_L nn c0 c1 c2 c3).drop su).take (eu - su)).getD 1 0)))])) _
              obtain ⟨c744, A744, q744, S744, M744, H744, U744⟩ := id f726
              have ib745 : ¬ ((Int32.ofNat (su + 1)) < 0 ∨ c744.slots.size ≤ ((Int32.ofNat (su + 1))).toNatClampNeg) := (inb_of S744 ⟨own_nn (by omega), own_lti (i := (su + 1)) (n := 4) (by decide) (by omega)⟩)
              refine own_back (fun t k => X743.caload hx (j := (Int32.ofNat (su + 1))) (v := (.int (nar .char ([c0, c1, c2, c3].getD (su + 1) 0)))) (own_hat hh743 A744.1) (State.isArrayOf_alike hZr720.alike A744.2.1) A744.2.2 ib745 (H744.at ib745 (own_cs c0 c1 c2 c3 (by omega))) (g := (mkF m 300 #[.val (.int p1), .val (.int p2), .val (.int p3), .val (.int p4), .val (.int p5), .val (.int (Int32.ofNat nn)), .val (.int c0), .val (.int c1), .val (.int c2), .val (.int c3), .val (.ref b658), .val (.ref am708), .val (.int k0), .val (.int k1), .val (.int k2), .val (.int k3), .val (.int (Int32.ofNat su)), .val (.int (Int32.ofNat eu)), .val (.ref at720), .val (.int (3 : Int32))] [(.int (Int32.ofNat (su + 1))), (.ref b658), (.int (own_ch ((((own_L nn c0 c1 c2 c3).drop su).take (eu - su)).getD 1 0)))])) rfl rfl (hb hby at_300) t k) ?_
              show OwnGo p e below (T743.setTop (mkF m 301 #[.val (.int p1), .val (.int p2), .val (.int p3), .val (.int p4), .val (.int p5), .val (.int (Int32.ofNat nn)), .val (.int c0), .val (.int c1), .val (.int c2), .val (.int c3), .val (.ref b658), .val (.ref am708), .val (.int k0), .val (.int k1), .val (.int k2), .val (.int k3), .val (.int (Int32.ofNat su)), .val (.int (Int32.ofNat eu)), .val (.ref at720), .val (.int (3 : Int32))] [(.int (nar .char ([c0, c1, c2, c3].getD (su + 1) 0))), (.int (own_ch ((((own_L nn c0 c1 c2 c3).drop su).take (eu - su)).getD 1 0)))])) _
              refine own_back (fun t k => XS.icmpYes X743.here hx rfl (pc0 := 301) (pc' := 306) rfl (hb hby at_301) rfl (Jvm.Free.XT.ii_eq_t ((own_at2 c0 c1 c2 c3 r0 r1 r2 r3 hn (su := su) (mu := eu - su) (q := 1) (by omega) (by omega)).trans (own_nar (own_rget r0 r1 r2 r3 (by omega))).symm)) (by decide) (by decide) k) ?_
              show OwnGo p e below (T743.setTop (mkF m 306 #[.val (.int p1), .val (.int p2), .val (.int p3), .val (.int p4), .val (.int p5), .val (.int (Int32.ofNat nn)), .val (.int c0), .val (.int c1), .val (.int c2), .val (.int c3), .val (.ref b658), .val (.ref am708), .val (.int k0), .val (.int k1), .val (.int k2), .val (.int k3), .val (.int (Int32.ofNat su)), .val (.int (Int32.ofNat eu)), .val (.ref at720), .val (.int (3 : Int32))] [])) _
              refine own_back (fun t k => XS.iload X743.here hx rfl (hb hby at_306) rfl k) ?_
              show OwnGo p e below (T743.setTop (mkF m 308 #[.val (.int p1), .val (.int p2), .val (.int p3), .val (.int p4), .val (.int p5), .val (.int (Int32.ofNat nn)), .val (.int c0), .val (.int c1), .val (.int c2), .val (.int c3), .val (.ref b658), .val (.ref am708), .val (.int k0), .val (.int k1), .val (.int k2), .val (.int k3), .val (.int (Int32.ofNat su)), .val (.int (Int32.ofNat eu)), .val (.ref at720), .val (.int (3 : Int32))] [(.int (3 : Int32))])) _
              refine own_back (fun t k => XS.iconst X743.here hx rfl (hb hby at_308) k) ?_
              show OwnGo p e below (T743.setTop (mkF m 309 #[.val (.int p1), .val (.int p2), .val (.int p3), .val (.int p4), .val (.int p5), .val (.int (Int32.ofNat nn)), .val (.int c0), .val (.int c1), .val (.int c2), .val (.int c3), .val (.ref b658), .val (.ref am708), .val (.int k0), .val (.int k1), .val (.int k2), .val (.int k3), .val (.int (Int32.ofNat su)), .val (.int (Int32.ofNat eu)), .val (.ref at720), .val (.int (3 : Int32))] [(.int (2 : Int32)), (.int (3 : Int32))])) _
              refine own_back (fun t k => XS.icmpNo X743.here hx rfl (hb hby at_309) rfl (Jvm.Free.XT.ii_le_f (by decide)) k) ?_
              show OwnGo p e below (T743.setTop (mkF m 312 #[.val (.int p1), .val (.int p2), .val (.int p3), .val (.int p4), .val (.int p5), .val (.int (Int32.ofNat nn)), .val (.int c0), .val (.int c1), .val (.int c2), .val (.int c3), .val (.ref b658), .val (.ref am708), .val (.int k0), .val (.int k1), .val (.int k2), .val (.int k3), .val (.int (Int32.ofNat su)), .val (.int (Int32.ofNat eu)), .val (.ref at720), .val (.int (3 : Int32))] [])) _
              refine own_back (fun t k => XS.aload X743.here hx rfl (hb hby at_312) rfl rfl k) ?_
              show OwnGo p e below (T743.setTop (mkF m 314 #[.val (.int p1), .val (.int p2), .val (.int p3), .val (.int p4), .val (.int p5), .val (.int (Int32.ofNat nn)), .val (.int c0), .val (.int c1), .val (.int c2), .val (.int c3), .val (.ref b658), .val (.ref am708), .val (.int k0), .val (.int k1), .val (.int k2), .val (.int k3), .val (.int (Int32.ofNat su)), .val (.int (Int32.ofNat eu)), .val (.ref at720), .val (.int (3 : Int32))] [(.ref at720)])) _
              refine own_back (fun t k => XS.iconst X743.here hx rfl (hb hby at_314) k) ?_
              show OwnGo p e below (T743.setTop (mkF m 315 #[.val (.int p1), .val (.int p2), .val (.int p3), .val (.int p4), .val (.int p5), .val (.int (Int32.ofNat nn)), .val (.int c0), .val (.int c1), .val (.int c2), .val (.int c3), .val (.ref b658), .val (.ref am708), .val (.int k0), .val (.int k1), .val (.int k2), .val (.int k3), .val (.int (Int32.ofNat su)), .val (.int (Int32.ofNat eu)), .val (.ref at720), .val (.int (3 : Int32))] [(.int (2 : Int32)), (.ref at720)])) _
              obtain ⟨cq746, kq746, q746a, q746b, q746c⟩ := isOf hZr720 hh743 B720.exa
              obtain ⟨_, _, ⟨T746, L746, k746, n746⟩, -, X746, ⟨Lc746, hQ746, l746, y746, z746⟩, st746⟩ := X743.virtualBack hx (y := (⟨"java/lang/String", "charAt", "(I)C"⟩ : MethodName)) (z := (⟨"java/lang/String", "charAt", "(I)C"⟩ : MethodName)) hownr720 (mvT hZr720 (hw _ (List.mem_of_getElem? (i := 121) rfl))) (mvT hZr720 (hw _ (List.mem_of_getElem? (i := 74) rfl))) (notFace_of_selects (args := #[]) (mvT hZr720 (hw _ (List.mem_of_getElem? (i := 76) rfl)))) (mvT hZr720 (hw _ (List.mem_of_getElem? (i := 76) rfl))) (mvT hZr720 (hw _ (List.mem_of_getElem? (i := 75) rfl))) (by decide) (own_backN (W := 0) (rm_ch l Z a0 hw [] at720 (((own_L nn c0 c1 c2 c3).drop su).take (eu - su)) 2 cz fm T720.heap n0 Zs723 O721 B720 (by rw [own_rl _ su eu hbl (by omega), hm]; decide) SC hcz SO hfm) hZr720 (hw _ (List.mem_of_getElem? (i := 77) rfl)) (hw _ (List.mem_of_getElem? (i := 11) rfl)) (by decide) (by decide)) q746a q746c (g := (mkF m 315 #[.val (.int p1), .val (.int p2), .val (.int p3), .val (.int p4), .val (.int p5), .val (.int (Int32.ofNat nn)), .val (.int c0), .val (.int c1), .val (.int c2), .val (.int c3), .val (.ref b658), .val (.ref am708), .val (.int k0), .val (.int k1), .val (.int k2), .val (.int k3), .val (.int (Int32.ofNat su)), .val (.int (Int32.ofNat eu)), .val (.ref at720), .val (.int (3 : Int32))] [(.int (2 : Int32)), (.ref at720)])) rfl (by rw [hml]; rfl) (Steps.refl _) (argsL := [(.int (2 : Int32))]) (rest := []) (lenOf lw_pd0 rfl) rfl (by show 2 * 0 + _ ≤ _; exact Nat.le_of_eq rfl) (hb hby at_315) (fun _ _ => ⟨rfl, hh743, Nat.le_of_ble_eq_true rfl, Nat.le_of_ble_eq_true rfl⟩)
              dsimp only [Pt.U, Pt.locs, Pt.cells, Pt.slots] at X746 l746 y746 z746 st746 hQ746
              subst l746 y746 z746
              obtain ⟨rfl, N746q, hh746⟩ := hQ746
              refine own_seq st746 ?_
              have N746 := Fr.app N743 N746q
              show OwnGo p e below (T746.setTop (mkF m 318 #[.val (.int p1), .val (.int p2), .val (.int p3), .val (.int p4), .val (.int p5), .val (.int (Int32.ofNat nn)), .val (.int c0), .val (.int c1), .val (.int c2), .val (.int c3), .val (.ref b658), .val (.ref am708), .val (.int k0), .val (.int k1), .val (.int k2), .val (.int k3), .val (.int (Int32.ofNat su)), .val (.int (Int32.ofNat eu)), .val (.ref at720), .val (.int (3 : Int32))] [(.int (own_ch ((((own_L nn c0 c1 c2 c3).drop su).take (eu - su)).getD 2 0)))])) _
              refine own_back (fun t k => XS.aload X746.here hx rfl (hb hby at_318) rfl rfl k) ?_
              show OwnGo p e below (T746.setTop (mkF m 320 #[.val (.int p1), .val (.int p2), .val (.int p3), .val (.int p4), .val (.int p5), .val (.int (Int32.ofNat nn)), .val (.int c0), .val (.int c1), .val (.int c2), .val (.int c3), .val (.ref b658), .val (.ref am708), .val (.int k0), .val (.int k1), .val (.int k2), .val (.int k3), .val (.int (Int32.ofNat su)), .val (.int (Int32.ofNat eu)), .val (.ref at720), .val (.int (3 : Int32))] [(.ref b658), (.int (own_ch ((((own_L nn c0 c1 c2 c3).drop su).take (eu - su)).getD 2 0)))])) _
              refine own_back (fun t k => XS.iload X746.here hx rfl (hb hby at_320) rfl k) ?_
              show OwnGo p e below (T746.setTop (mkF m 322 #[.val (.int p1), .val (.int p2), .val (.int p3), .val (.int p4), .val (.int p5), .val (.int (Int32.ofNat nn)), .val (.int c0), .val (.int c1), .val (.int c2), .val (.int c3), .val (.ref b658), .val (.ref am708), .val (.int k0), .val (.int k1), .val (.int k2), .val (.int k3), .val (.int (Int32.ofNat su)), .val (.int (Int32.ofNat eu)), .val (.ref at720), .val (.int (3 : Int32))] [(.int (Int32.ofNat su)), (.ref b658), (.int (own_ch ((((own_L nn c0 c1 c2 c3).drop su).take (eu - su)).getD 2 0)))])) _
              refine own_back (fun t k => XS.iconst X746.here hx rfl (hb hby at_322) k) ?_
              show OwnGo p e below (T746.setTop (mkF m 323 #[.val (.int p1), .val (.int p2), .val (.int p3), .val (.int p4), .val (.int p5), .val (.int (Int32.ofNat nn)), .val (.int c0), .val (.int c1), .val (.int c2), .val (.int c3), .val (.ref b658), .val (.ref am708), .val (.int k0), .val (.int k1), .val (.int k2), .val (.int k3), .val (.int (Int32.ofNat su)), .val (.int (Int32.ofNat eu)), .val (.ref at720), .val (.int (3 : Int32))] [(.int (2 : Int32)), (.int (Int32.ofNat su)), (.ref b658), (.int (own_ch ((((own_L nn c0 c1 c2 c3).drop su).take (eu - su)).getD 2 0)))])) _
              refine own_back (fun t k => XS.iadd X746.here hx rfl (hb hby at_323) rfl k) ?_
              show OwnGo p e below (T746.setTop (mkF m 324 #[.val (.int p1), .val (.int p2), .val (.int p3), .val (.int p4), .val (.int p5), .val (.int (Int32.ofNat nn)), .val (.int c0), .val (.int c1), .val (.int c2), .val (.int c3), .val (.ref b658), .val (.ref am708), .val (.int k0), .val (.int k1), .val (.int k2), .val (.int k3), .val (.int (Int32.ofNat su)), .val (.int (Int32.ofNat eu)), .val (.ref at720), .val (.int (3 : Int32))] [(.int ((Int32.ofNat su) + (2 : Int32))), (.ref b658), (.int (own_ch ((((own_L nn c0 c1 c2 c3).drop su).take (eu - su)).getD 2 0)))])) _
              rw [show (Int32.ofNat su) + (2 : Int32) = Int32.ofNat (su + 2) from (Int32.ofNat_add su 2).symm]
              show OwnGo p e below (T746.setTop (mkF m 324 #[.val (.int p1), .val (.int p2), .val (.int p3), .val (.int p4), .val (.int p5), .val (.int (Int32.ofNat nn)), .val (.int c0), .val (.int c1), .val (.int c2), .val (.int c3), .val (.ref b658), .val (.ref am708), .val (.int k0), .val (.int k1), .val (.int k2), .val (.int k3), .val (.int (Int32.ofNat su)), .val (.int (Int32.ofNat eu)), .val (.ref at720), .val (.int (3 : Int32))] [(.int (Int32.ofNat (su + 2))), (.ref b658), (.int (own_ch ((((own_L nn c0 c1 c2 c3).drop su).take (eu - su)).getD 2 0)))])) _
              obtain ⟨c747, A747, q747, S747, M747, H747, U747⟩ := id f726
              have ib748 : ¬ ((Int32.ofNat (su + 2)) < 0 ∨ c747.slots.size ≤ ((Int32.ofNat (su + 2))).toNatClampNeg) := (inb_of S747 ⟨own_nn (by omega), own_lti (i := (su + 2)) (n := 4) (by decide) (by omega)⟩)
              refine own_back (fun t k => X746.caload hx (j := (Int32.ofNat (su + 2))) (v := (.int (nar .char ([c0, c1, c2, c3].getD (su + 2) 0)))) (own_hat hh746 A747.1) (State.isArrayOf_alike hZr720.alike A747.2.1) A747.2.2 ib748 (H747.at ib748 (own_cs c0 c1 c2 c3 (by omega))) (g := (mkF m 324 #[.val (.int p1), .val (.int p2), .val (.int p3), .val (.int p4), .val (.int p5), .val (.int (Int32.ofNat nn)), .val (.int c0), .val (.int c1), .val (.int c2), .val (.int c3), .val (.ref b658), .val (.ref am708), .val (.int k0), .val (.int k1), .val (.int k2), .val (.int k3), .val (.int (Int32.ofNat su)), .val (.int (Int32.ofNat eu)), .val (.ref at720), .val (.int (3 : Int32))] [(.int (Int32.ofNat (su + 2))), (.ref b658), (.int (own_ch ((((own_L nn c0 c1 c2 c3).drop su).take (eu - su)).getD 2 0)))])) rfl rfl (hb hby at_324) t k) ?_
              show OwnGo p e below (T746.setTop (mkF m 325 #[.val (.int p1), .val (.int p2), .val (.int p3), .val (.int p4), .val (.int p5), .val (.int (Int32.ofNat nn)), .val (.int c0), .val (.int c1), .val (.int c2), .val (.int c3), .val (.ref b658), .val (.ref am708), .val (.int k0), .val (.int k1), .val (.int k2), .val (.int k3), .val (.int (Int32.ofNat su)), .val (.int (Int32.ofNat eu)), .val (.ref at720), .val (.int (3 : Int32))] [(.int (nar .char ([c0, c1, c2, c3].getD (su + 2) 0))), (.int (own_ch ((((own_L nn c0 c1 c2 c3).drop su).take (eu - su)).getD 2 0)))])) _
              refine own_back (fun t k => XS.icmpYes X746.here hx rfl (pc0 := 325) (pc' := 330) rfl (hb hby at_325) rfl (Jvm.Free.XT.ii_eq_t ((own_at2 c0 c1 c2 c3 r0 r1 r2 r3 hn (su := su) (mu := eu - su) (q := 2) (by omega) (by omega)).trans (own_nar (own_rget r0 r1 r2 r3 (by omega))).symm)) (by decide) (by decide) k) ?_
              show OwnGo p e below (T746.setTop (mkF m 330 #[.val (.int p1), .val (.int p2), .val (.int p3), .val (.int p4), .val (.int p5), .val (.int (Int32.ofNat nn)), .val (.int c0), .val (.int c1), .val (.int c2), .val (.int c3), .val (.ref b658), .val (.ref am708), .val (.int k0), .val (.int k1), .val (.int k2), .val (.int k3), .val (.int (Int32.ofNat su)), .val (.int (Int32.ofNat eu)), .val (.ref at720), .val (.int (3 : Int32))] [])) _
              refine own_back (fun t k => XS.iload X746.here hx rfl (hb hby at_330) rfl k) ?_
              show OwnGo p e below (T746.setTop (mkF m 332 #[.val (.int p1), .val (.int p2), .val (.int p3), .val (.int p4), .val (.int p5), .val (.int (Int32.ofNat nn)), .val (.int c0), .val (.int c1), .val (.int c2), .val (.int c3), .val (.ref b658), .val (.ref am708), .val (.int k0), .val (.int k1), .val (.int k2), .val (.int k3), .val (.int (Int32.ofNat su)), .val (.int (Int32.ofNat eu)), .val (.ref at720), .val (.int (3 : Int32))] [(.int (3 : Int32))])) _
              refine own_back (fun t k => XS.iconst X746.here hx rfl (hb hby at_332) k) ?_
              show OwnGo p e below (T746.setTop (mkF m 333 #[.val (.int p1), .val (.int p2), .val (.int p3), .val (.int p4), .val (.int p5), .val (.int (Int32.ofNat nn)), .val (.int c0), .val (.int c1), .val (.int c2), .val (.int c3), .val (.ref b658), .val (.ref am708), .val (.int k0), .val (.int k1), .val (.int k2), .val (.int k3), .val (.int (Int32.ofNat su)), .val (.int (Int32.ofNat eu)), .val (.ref at720), .val (.int (3 : Int32))] [(.int (3 : Int32)), (.int (3 : Int32))])) _
              refine own_back (fun t k => XS.icmpYes X746.here hx rfl (pc0 := 333) (pc' := 354) rfl (hb hby at_333) rfl (Jvm.Free.XT.ii_le_t (by decide)) (by decide) (by decide) k) ?_
              show OwnGo p e below (T746.setTop (mkF m 354 #[.val (.int p1), .val (.int p2), .val (.int p3), .val (.int p4), .val (.int p5), .val (.int (Int32.ofNat nn)), .val (.int c0), .val (.int c1), .val (.int c2), .val (.int c3), .val (.ref b658), .val (.ref am708), .val (.int k0), .val (.int k1), .val (.int k2), .val (.int k3), .val (.int (Int32.ofNat su)), .val (.int (Int32.ofNat eu)), .val (.ref at720), .val (.int (3 : Int32))] [])) _
              refine own_back (fun t k => XS.iconst X746.here hx rfl (hb hby at_354) k) ?_
              show OwnGo p e below (T746.setTop (mkF m 355 #[.val (.int p1), .val (.int p2), .val (.int p3), .val (.int p4), .val (.int p5), .val (.int (Int32.ofNat nn)), .val (.int c0), .val (.int c1), .val (.int c2), .val (.int c3), .val (.ref b658), .val (.ref am708), .val (.int k0), .val (.int k1), .val (.int k2), .val (.int k3), .val (.int (Int32.ofNat su)), .val (.int (Int32.ofNat eu)), .val (.ref at720), .val (.int (3 : Int32))] [(.int (1 : Int32))])) _
              refine own_retNW X746 hx Bd.notSynchronized (t := .boolean) (z := (1 : Int32)) Bd.returns (by simp) rfl hSr720 (Nat.le_refl _) hZr720 hEL (hh ▸ CR724) (hb hby at_355) hh746 (Nat.le_of_ble_eq_true rfl) (Nat.le_of_ble_eq_true rfl) ?_
              exact ⟨rfl, N746⟩
            · rw [show (Int32.ofNat (eu - su)) = (4 : Int32) from congrArg Int32.ofNat hm]
              show OwnGo p e below (T720.setTop (mkF m 247 #[.val (.int p1), .val (.int p2), .val (.int p3), .val (.int p4), .val (.int p5), .val (.int (Int32.ofNat nn)), .val (.int c0), .val (.int c1), .val (.int c2), .val (.int c3), .val (.ref b658), .val (.ref am708), .val (.int k0), .val (.int k1), .val (.int k2), .val (.int k3), .val (.int (Int32.ofNat su)), .val (.int (Int32.ofNat eu)), .val (.ref at720), .unset] [(.int (4 : Int32))])) _
              refine own_back (fun t k => XS.istore Xr720.here hx rfl (hb hby at_247) rfl (l' := #[.val (.int p1), .val (.int p2), .val (.int p3), .val (.int p4), .val (.int p5), .val (.int (Int32.ofNat nn)), .val (.int c0), .val (.int c1), .val (.int c2), .val (.int c3), .val (.ref b658), .val (.ref am708), .val (.int k0), .val (.int k1), .val (.int k2), .val (.int k3), .val (.int (Int32.ofNat su)), .val (.int (Int32.ofNat eu)), .val (.ref at720), .val (.int (4 : Int32))]) rfl k) ?_
              show OwnGo p e below (T720.setTop (mkF m 249 #[.val (.int p1), .val (.int p2), .val (.int p3), .val (.int p4), .val (.int p5), .val (.int (Int32.ofNat nn)), .val (.int c0), .val (.int c1), .val (.int c2), .val (.int c3), .val (.ref b658), .val (.ref am708), .val (.int k0), .val (.int k1), .val (.int k2), .val (.int k3), .val (.int (Int32.ofNat su)), .val (.int (Int32.ofNat eu)), .val (.ref at720), .val (.int (4 : Int32))] [])) _
              refine own_back (fun t k => XS.aload Xr720.here hx rfl (hb hby at_249) rfl rfl k) ?_
              show OwnGo p e below (T720.setTop (mkF m 251 #[.val (.int p1), .val (.int p2), .val (.int p3), .val (.int p4), .val (.int p5), .val (.int (Int32.ofNat nn)), .val (.int c0), .val (.int c1), .val (.int c2), .val (.int c3), .val (.ref b658), .val (.ref am708), .val (.int k0), .val (.int k1), .val (.int k2), .val (.int k3), .val (.int (Int32.ofNat su)), .val (.int (Int32.ofNat eu)), .val (.ref at720), .val (.int (4 : Int32))] [(.ref at720)])) _
              obtain ⟨cq749, kq749, q749a, q749b, q749c⟩ := isOf hZr720 rfl B720.exa
              obtain ⟨_, _, ⟨T749, L749, k749, n749⟩, -, X749, ⟨Lc749, hQ749, l749, y749, z749⟩, st749⟩ := Xr720.virtualBack hx (y := (⟨"java/lang/String", "length", "()I"⟩ : MethodName)) (z := (⟨"java/lang/String", "length", "()I"⟩ : MethodName)) hownr720 (mvT hZr720 (hw _ (List.mem_of_getElem? (i := 59) rfl))) (mvT hZr720 (hw _ (List.mem_of_getElem? (i := 35) rfl))) (notFace_of_selects (args := #[]) (mvT hZr720 (hw _ (List.mem_of_getElem? (i := 37) rfl)))) (mvT hZr720 (hw _ (List.mem_of_getElem? (i := 37) rfl))) (mvT hZr720 (hw _ (List.mem_of_getElem? (i := 36) rfl))) (by decide) (own_backN (W := 0) (rm_len l Z a0 hw [] at720 (((own_L nn c0 c1 c2 c3).drop su).take (eu - su)) cz T720.heap n0 Zs723 O721 B720 SC hcz) hZr720 (hw _ (List.mem_of_getElem? (i := 38) rfl)) (hw _ (List.mem_of_getElem? (i := 11) rfl)) (by decide) (by decide)) q749a q749c (g := (mkF m 251 #[.val (.int p1), .val (.int p2), .val (.int p3), .val (.int p4), .val (.int p5), .val (.int (Int32.ofNat nn)), .val (.int c0), .val (.int c1), .val (.int c2), .val (.int c3), .val (.ref b658), .val (.ref am708), .val (.int k0), .val (.int k1), .val (.int k2), .val (.int k3), .val (.int (Int32.ofNat su)), .val (.int (Int32.ofNat eu)), .val (.ref at720), .val (.int (4 : Int32))] [(.ref at720)])) rfl (by rw [hml]; rfl) (Steps.refl _) (argsL := []) (rest := []) (lenOf lw_pd3 rfl) rfl (by show 2 * 0 + _ ≤ _; exact Nat.le_of_eq rfl) (hb hby at_251) (fun _ _ => ⟨rfl, rfl, Nat.le_of_ble_eq_true rfl, Nat.le_of_ble_eq_true rfl⟩)
              dsimp only [Pt.U, Pt.locs, Pt.cells, Pt.slots] at X749 l749 y749 z749 st749 hQ749
              subst l749 y749 z749
              obtain ⟨rfl, N749q, hh749⟩ := hQ749
              refine own_seq st749 ?_
              have N749 := Fr.app N720 N749q
              show OwnGo p e below (T749.setTop (mkF m 254 #[.val (.int p1), .val (.int p2), .val (.int p3), .val (.int p4), .val (.int p5), .val (.int (Int32.ofNat nn)), .val (.int c0), .val (.int c1), .val (.int c2), .val (.int c3), .val (.ref b658), .val (.ref am708), .val (.int k0), .val (.int k1), .val (.int k2), .val (.int k3), .val (.int (Int32.ofNat su)), .val (.int (Int32.ofNat eu)), .val (.ref at720), .val (.int (4 : Int32))] [(.int (Int32.ofNat (((own_L nn c0 c1 c2 c3).drop su).take (eu - su)).length))])) _
              refine own_back (fun t k => XS.iload X749.here hx rfl (hb hby at_254) rfl k) ?_
              show OwnGo p e below (T749.setTop (mkF m 256 #[.val (.int p1), .val (.int p2), .val (.int p3), .val (.int p4), .val (.int p5), .val (.int (Int32.ofNat nn)), .val (.int c0), .val (.int c1), .val (.int c2), .val (.int c3), .val (.ref b658), .val (.ref am708), .val (.int k0), .val (.int k1), .val (.int k2), .val (.int k3), .val (.int (Int32.ofNat su)), .val (.int (Int32.ofNat eu)), .val (.ref at720), .val (.int (4 : Int32))] [(.int (4 : Int32)), (.int (Int32.ofNat (((own_L nn c0 c1 c2 c3).drop su).take (eu - su)).length))])) _
              refine own_back (fun t k => XS.icmpYes X749.here hx rfl (pc0 := 256) (pc' := 261) rfl (hb hby at_256) rfl (Jvm.Free.XT.ii_eq_t (by rw [own_rl _ su eu hbl (by omega), hm]; rfl)) (by decide) (by decide) k) ?_
              show OwnGo p e below (T749.setTop (mkF m 261 #[.val (.int p1), .val (.int p2), .val (.int p3), .val (.int p4), .val (.int p5), .val (.int (Int32.ofNat nn)), .val (.int c0), .val (.int c1), .val (.int c2), .val (.int c3), .val (.ref b658), .val (.ref am708), .val (.int k0), .val (.int k1), .val (.int k2), .val (.int k3), .val (.int (Int32.ofNat su)), .val (.int (Int32.ofNat eu)), .val (.ref at720), .val (.int (4 : Int32))] [])) _
              refine own_back (fun t k => XS.iload X749.here hx rfl (hb hby at_261) rfl k) ?_
              show OwnGo p e below (T749.setTop (mkF m 263 #[.val (.int p1), .val (.int p2), .val (.int p3), .val (.int p4), .val (.int p5), .val (.int (Int32.ofNat nn)), .val (.int c0), .val (.int c1), .val (.int c2), .val (.int c3), .val (.ref b658), .val (.ref am708), .val (.int k0), .val (.int k1), .val (.int k2), .val (.int k3), .val (.int (Int32.ofNat su)), .val (.int (Int32.ofNat eu)), .val (.ref at720), .val (.int (4 : Int32))] [(.int (4 : Int32))])) _
              refine own_back (fun t k => XS.ifNo X749.here hx rfl (hb hby at_263) rfl (Jvm.Free.XT.i0_le_f (by decide)) k) ?_
              show OwnGo p e below (T749.setTop (mkF m 266 #[.val (.int p1), .val (.int p2), .val (.int p3), .val (.int p4), .val (.int p5), .val (.int (Int32.ofNat nn)), .val (.int c0), .val (.int c1), .val (.int c2), .val (.int c3), .val (.ref b658), .val (.ref am708), .val (.int k0), .val (.int k1), .val (.int k2), .val (.int k3), .val (.int (Int32.ofNat su)), .val (.int (Int32.ofNat eu)), .val (.ref at720), .val (.int (4 : Int32))] [])) _
              refine own_back (fun t k => XS.aload X749.here hx rfl (hb hby at_266) rfl rfl k) ?_
              show OwnGo p e below (T749.setTop (mkF m 268 #[.val (.int p1), .val (.int p2), .val (.int p3), .val (.int p4), .val (.int p5), .val (.int (Int32.ofNat nn)), .val (.int c0), .val (.int c1), .val (.int c2), .val (.int c3), .val (.ref b658), .val (.ref am708), .val (.int k0), .val (.int k1), .val (.int k2), .val (.int k3), .val (.int (Int32.ofNat su)), .val (.int (Int32.ofNat eu)), .val (.ref at720), .val (.int (4 : Int32))] [(.ref at720)])) _
              refine own_back (fun t k => XS.iconst X749.here hx rfl (hb hby at_268) k) ?_
              show OwnGo p e below (T749.setTop (mkF m 269 #[.val (.int p1), .val (.int p2), .val (.int p3), .val (.int p4), .val (.int p5), .val (.int (Int32.ofNat nn)), .val (.int c0), .val (.int c1), .val (.int c2), .val (.int c3), .val (.ref b658), .val (.ref am708), .val (.int k0), .val (.int k1), .val (.int k2), .val (.int k3), .val (.int (Int32.ofNat su)), .val (.int (Int32.ofNat eu)), .val (.ref at720), .val (.int (4 : Int32))] [(.int (0 : Int32)), (.ref at720)])) _
              obtain ⟨cq750, kq750, q750a, q750b, q750c⟩ := isOf hZr720 hh749 B720.exa
              obtain ⟨_, _, ⟨T750, L750, k750, n750⟩, -, X750, ⟨Lc750, hQ750, l750, y750, z750⟩, st750⟩ := X749.virtualBack hx (y := (⟨"java/lang/String", "charAt", "(I)C"⟩ : MethodName)) (z := (⟨"java/lang/String", "charAt", "(I)C"⟩ : MethodName)) hownr720 (mvT hZr720 (hw _ (List.mem_of_getElem? (i := 121) rfl))) (mvT hZr720 (hw _ (List.mem_of_getElem? (i := 74) rfl))) (notFace_of_selects (args := #[]) (mvT hZr720 (hw _ (List.mem_of_getElem? (i := 76) rfl)))) (mvT hZr720 (hw _ (List.mem_of_getElem? (i := 76) rfl))) (mvT hZr720 (hw _ (List.mem_of_getElem? (i := 75) rfl))) (by decide) (own_backN (W := 0) (rm_ch l Z a0 hw [] at720 (((own_L nn c0 c1 c2 c3).drop su).take (eu - su)) 0 cz fm T720.heap n0 Zs723 O721 B720 (by rw [own_rl _ su eu hbl (by omega), hm]; decide) SC hcz SO hfm) hZr720 (hw _ (List.mem_of_getElem? (i := 77) rfl)) (hw _ (List.mem_of_getElem? (i := 11) rfl)) (by decide) (by decide)) q750a q750c (g := (mkF m 269 #[.val (.int p1), .val (.int p2), .val (.int p3), .val (.int p4), .val (.int p5), .val (.int (Int32.ofNat nn)), .val (.int c0), .val (.int c1), .val (.int c2), .val (.int c3), .val (.ref b658), .val (.ref am708), .val (.int k0), .val (.int k1), .val (.int k2), .val (.int k3), .val (.int (Int32.ofNat su)), .val (.int (Int32.ofNat eu)), .val (.ref at720), .val (.int (4 : Int32))] [(.int (0 : Int32)), (.ref at720)])) rfl (by rw [hml]; rfl) (Steps.refl _) (argsL := [(.int (0 : Int32))]) (rest := []) (lenOf lw_pd0 rfl) rfl (by show 2 * 0 + _ ≤ _; exact Nat.le_of_eq rfl) (hb hby at_269) (fun _ _ => ⟨rfl, hh749, Nat.le_of_ble_eq_true rfl, Nat.le_of_ble_eq_true rfl⟩)
              dsimp only [Pt.U, Pt.locs, Pt.cells, Pt.slots] at X750 l750 y750 z750 st750 hQ750
              subst l750 y750 z750
              obtain ⟨rfl, N750q, hh750⟩ := hQ750
              refine own_seq st750 ?_
              have N750 := Fr.app N749 N750q
              show OwnGo p e below (T750.setTop (mkF m 272 #[.val (.int p1), .val (.int p2), .val (.int p3), .val (.int p4), .val (.int p5), .val (.int (Int32.ofNat nn)), .val (.int c0), .val (.int c1), .val (.int c2), .val (.int c3), .val (.ref b658), .val (.ref am708), .val (.int k0), .val (.int k1), .val (.int k2), .val (.int k3), .val (.int (Int32.ofNat su)), .val (.int (Int32.ofNat eu)), .val (.ref at720), .val (.int (4 : Int32))] [(.int (own_ch ((((own_L nn c0 c1 c2 c3).drop su).take (eu - su)).getD 0 0)))])) _
              refine own_back (fun t k => XS.aload X750.here hx rfl (hb hby at_272) rfl rfl k) ?_
              show OwnGo p e below (T750.setTop (mkF m 274 #[.val (.int p1), .val (.int p2), .val (.int p3), .val (.int p4), .val (.int p5), .val (.int (Int32.ofNat nn)), .val (.int c0), .val (.int c1), .val (.int c2), .val (.int c3), .val (.ref b658), .val (.ref am708), .val (.int k0), .val (.int k1), .val (.int k2), .val (.int k3), .val (.int (Int32.ofNat su)), .val (.int (Int32.ofNat eu)), .val (.ref at720), .val (.int (4 : Int32))] [(.ref b658), (.int (own_ch ((((own_L nn c0 c1 c2 c3).drop su).take (eu - su)).getD 0 0)))])) _
              refine own_back (fun t k => XS.iload X750.here hx rfl (hb hby at_274) rfl k) ?_
              show OwnGo p e below (T750.setTop (mkF m 276 #[.val (.int p1), .val (.int p2), .val (.int p3), .val (.int p4), .val (.int p5), .val (.int (Int32.ofNat nn)), .val (.int c0), .val (.int c1), .val (.int c2), .val (.int c3), .val (.ref b658), .val (.ref am708), .val (.int k0), .val (.int k1), .val (.int k2), .val (.int k3), .val (.int (Int32.ofNat su)), .val (.int (Int32.ofNat eu)), .val (.ref at720), .val (.int (4 : Int32))] [(.int (Int32.ofNat su)), (.ref b658), (.int (own_ch ((((own_L nn c0 c1 c2 c3).drop su).take (eu - su)).getD 0 0)))])) _
              obtain ⟨c751, A751, q751, S751, M751, H751, U751⟩ := id f726
              have ib752 : ¬ ((Int32.ofNat su) < 0 ∨ c751.slots.size ≤ ((Int32.ofNat su)).toNatClampNeg) := (inb_of S751 ⟨own_nn (by omega), own_lti (i := su) (n := 4) (by decide) (by omega)⟩)
              refine own_back (fun t k => X750.caload hx (j := (Int32.ofNat su)) (v := (.int (nar .char ([c0, c1, c2, c3].getD su 0)))) (own_hat hh750 A751.1) (State.isArrayOf_alike hZr720.alike A751.2.1) A751.2.2 ib752 (H751.at ib752 (own_cs c0 c1 c2 c3 (by omega))) (g := (mkF m 276 #[.val (.int p1), .val (.int p2), .val (.int p3), .val (.int p4), .val (.int p5), .val (.int (Int32.ofNat nn)), .val (.int c0), .val (.int c1), .val (.int c2), .val (.int c3), .val (.ref b658), .val (.ref am708), .val (.int k0), .val (.int k1), .val (.int k2), .val (.int k3), .val (.int (Int32.ofNat su)), .val (.int (Int32.ofNat eu)), .val (.ref at720), .val (.int (4 : Int32))] [(.int (Int32.ofNat su)), (.ref b658), (.int (own_ch ((((own_L nn c0 c1 c2 c3).drop su).take (eu - su)).getD 0 0)))])) rfl rfl (hb hby at_276) t k) ?_
              show OwnGo p e below (T750.setTop (mkF m 277 #[.val (.int p1), .val (.int p2), .val (.int p3), .val (.int p4), .val (.int p5), .val (.int (Int32.ofNat nn)), .val (.int c0), .val (.int c1), .val (.int c2), .val (.int c3), .val (.ref b658), .val (.ref am708), .val (.int k0), .val (.int k1), .val (.int k2), .val (.int k3), .val (.int (Int32.ofNat su)), .val (.int (Int32.ofNat eu)), .val (.ref at720), .val (.int (4 : Int32))] [(.int (nar .char ([c0, c1, c2, c3].getD su 0))), (.int (own_ch ((((own_L nn c0 c1 c2 c3).drop su).take (eu - su)).getD 0 0)))])) _
              refine own_back (fun t k => XS.icmpYes X750.here hx rfl (pc0 := 277) (pc' := 282) rfl (hb hby at_277) rfl (Jvm.Free.XT.ii_eq_t ((own_at2 c0 c1 c2 c3 r0 r1 r2 r3 hn (su := su) (mu := eu - su) (q := 0) (by omega) (by omega)).trans (own_nar (own_rget r0 r1 r2 r3 (by omega))).symm)) (by decide) (by decide) k) ?_
              show OwnGo p e below (T750.setTop (mkF m 282 #[.val (.int p1), .val (.int p2), .val (.int p3), .val (.int p4), .val (.int p5), .val (.int (Int32.ofNat nn)), .val (.int c0), .val (.int c1), .val (.int c2), .val (.int c3), .val (.ref b658), .val (.ref am708), .val (.int k0), .val (.int k1), .val (.int k2), .val (.int k3), .val (.int (Int32.ofNat su)), .val (.int (Int32.ofNat eu)), .val (.ref at720), .val (.int (4 : Int32))] [])) _
              refine own_back (fun t k => XS.iload X750.here hx rfl (hb hby at_282) rfl k) ?_
              show OwnGo p e below (T750.setTop (mkF m 284 #[.val (.int p1), .val (.int p2), .val (.int p3), .val (.int p4), .val (.int p5), .val (.int (Int32.ofNat nn)), .val (.int c0), .val (.int c1), .val (.int c2), .val (.int c3), .val (.ref b658), .val (.ref am708), .val (.int k0), .val (.int k1), .val (.int k2), .val (.int k3), .val (.int (Int32.ofNat su)), .val (.int (Int32.ofNat eu)), .val (.ref at720), .val (.int (4 : Int32))] [(.int (4 : Int32))])) _
              refine own_back (fun t k => XS.iconst X750.here hx rfl (hb hby at_284) k) ?_
              show OwnGo p e below (T750.setTop (mkF m 285 #[.val (.int p1), .val (.int p2), .val (.int p3), .val (.int p4), .val (.int p5), .val (.int (Int32.ofNat nn)), .val (.int c0), .val (.int c1), .val (.int c2), .val (.int c3), .val (.ref b658), .val (.ref am708), .val (.int k0), .val (.int k1), .val (.int k2), .val (.int k3), .val (.int (Int32.ofNat su)), .val (.int (Int32.ofNat eu)), .val (.ref at720), .val (.int (4 : Int32))] [(.int (1 : Int32)), (.int (4 : Int32))])) _
              refine own_back (fun t k => XS.icmpNo X750.here hx rfl (hb hby at_285) rfl (Jvm.Free.XT.ii_le_f (by decide)) k) ?_
              show OwnGo p e below (T750.setTop (mkF m 288 #[.val (.int p1), .val (.int p2), .val (.int p3), .val (.int p4), .val (.int p5), .val (.int (Int32.ofNat nn)), .val (.int c0), .val (.int c1), .val (.int c2), .val (.int c3), .val (.ref b658), .val (.ref am708), .val (.int k0), .val (.int k1), .val (.int k2), .val (.int k3), .val (.int (Int32.ofNat su)), .val (.int (Int32.ofNat eu)), .val (.ref at720), .val (.int (4 : Int32))] [])) _
              refine own_back (fun t k => XS.aload X750.here hx rfl (hb hby at_288) rfl rfl k) ?_
              show OwnGo p e below (T750.setTop (mkF m 290 #[.val (.int p1), .val (.int p2), .val (.int p3), .val (.int p4), .val (.int p5), .val (.int (Int32.ofNat nn)), .val (.int c0), .val (.int c1), .val (.int c2), .val (.int c3), .val (.ref b658), .val (.ref am708), .val (.int k0), .val (.int k1), .val (.int k2), .val (.int k3), .val (.int (Int32.ofNat su)), .val (.int (Int32.ofNat eu)), .val (.ref at720), .val (.int (4 : Int32))] [(.ref at720)])) _
              refine own_back (fun t k => XS.iconst X750.here hx rfl (hb hby at_290) k) ?_
              show OwnGo p e below (T750.setTop (mkF m 291 #[.val (.int p1), .val (.int p2), .val (.int p3), .val (.int p4), .val (.int p5), .val (.int (Int32.ofNat nn)), .val (.int c0), .val (.int c1), .val (.int c2), .val (.int c3), .val (.ref b658), .val (.ref am708), .val (.int k0), .val (.int k1), .val (.int k2), .val (.int k3), .val (.int (Int32.ofNat su)), .val (.int (Int32.ofNat eu)), .val (.ref at720), .val (.int (4 : Int32))] [(.int (1 : Int32)), (.ref at720)])) _
              obtain ⟨cq753, kq753, q753a, q753b, q753c⟩ := isOf hZr720 hh750 B720.exa
              obtain ⟨_, _, ⟨T753, L753, k753, n753⟩, -, X753, ⟨Lc753, hQ753, l753, y753, z753⟩, st753⟩ := X750.virtualBack hx (y := (⟨"java/lang/String", "charAt", "(I)C"⟩ : MethodName)) (z := (⟨"java/lang/String", "charAt", "(I)C"⟩ : MethodName)) hownr720 (mvT hZr720 (hw _ (List.mem_of_getElem? (i := 121) rfl))) (mvT hZr720 (hw _ (List.mem_of_getElem? (i := 74) rfl))) (notFace_of_selects (args := #[]) (mvT hZr720 (hw _ (List.mem_of_getElem? (i := 76) rfl)))) (mvT hZr720 (hw _ (List.mem_of_getElem? (i := 76) rfl))) (mvT hZr720 (hw _ (List.mem_of_getElem? (i := 75) rfl))) (by decide) (own_backN (W := 0) (rm_ch l Z a0 hw [] at720 (((own_L nn c0 c1 c2 c3).drop su).take (eu - su)) 1 cz fm T720.heap n0 Zs723 O721 B720 (by rw [own_rl _ su eu hbl (by omega), hm]; decide) SC hcz SO hfm) hZr720 (hw _ (List.mem_of_getElem? (i := 77) rfl)) (hw _ (List.mem_of_getElem? (i := 11) rfl)) (by decide) (by decide)) q753a q753c (g := (mkF m 291 #[.val (.int p1), .val (.int p2), .val (.int p3), .val (.int p4), .val (.int p5), .val (.int (Int32.ofNat nn)), .val (.int c0), .val (.int c1), .val (.int c2), .val (.int c3), .val (.ref b658), .val (.ref am708), .val (.int k0), .val (.int k1), .val (.int k2), .val (.int k3), .val (.int (Int32.ofNat su)), .val (.int (Int32.ofNat eu)), .val (.ref at720), .val (.int (4 : Int32))] [(.int (1 : Int32)), (.ref at720)])) rfl (by rw [hml]; rfl) (Steps.refl _) (argsL := [(.int (1 : Int32))]) (rest := []) (lenOf lw_pd0 rfl) rfl (by show 2 * 0 + _ ≤ _; exact Nat.le_of_eq rfl) (hb hby at_291) (fun _ _ => ⟨rfl, hh750, Nat.le_of_ble_eq_true rfl, Nat.le_of_ble_eq_true rfl⟩)
              dsimp only [Pt.U, Pt.locs, Pt.cells, Pt.slots] at X753 l753 y753 z753 st753 hQ753
              subst l753 y753 z753
              obtain ⟨rfl, N753q, hh753⟩ := hQ753
              refine own_seq st753 ?_
              have N753 := Fr.app N750 N753q
              show OwnGo p e below (T753.setTop (mkF m 294 #[.val (.int p1), .val (.int p2), .val (.int p3), .val (.int p4), .val (.int p5), .val (.int (Int32.ofNat nn)), .val (.int c0), .val (.int c1), .val (.int c2), .val (.int c3), .val (.ref b658), .val (.ref am708), .val (.int k0), .val (.int k1), .val (.int k2), .val (.int k3), .val (.int (Int32.ofNat su)), .val (.int (Int32.ofNat eu)), .val (.ref at720), .val (.int (4 : Int32))] [(.int (own_ch ((((own_L nn c0 c1 c2 c3).drop su).take (eu - su)).getD 1 0)))])) _
              refine own_back (fun t k => XS.aload X753.here hx rfl (hb hby at_294) rfl rfl k) ?_
              show OwnGo p e below (T753.setTop (mkF m 296 #[.val (.int p1), .val (.int p2), .val (.int p3), .val (.int p4), .val (.int p5), .val (.int (Int32.ofNat nn)), .val (.int c0), .val (.int c1), .val (.int c2), .val (.int c3), .val (.ref b658), .val (.ref am708), .val (.int k0), .val (.int k1), .val (.int k2), .val (.int k3), .val (.int (Int32.ofNat su)), .val (.int (Int32.ofNat eu)), .val (.ref at720), .val (.int (4 : Int32))] [(.ref b658), (.int (own_ch ((((own_L nn c0 c1 c2 c3).drop su).take (eu - su)).getD 1 0)))])) _
              refine own_back (fun t k => XS.iload X753.here hx rfl (hb hby at_296) rfl k) ?_
              show OwnGo p e below (T753.setTop (mkF m 298 #[.val (.int p1), .val (.int p2), .val (.int p3), .val (.int p4), .val (.int p5), .val (.int (Int32.ofNat nn)), .val (.int c0), .val (.int c1), .val (.int c2), .val (.int c3), .val (.ref b658), .val (.ref am708), .val (.int k0), .val (.int k1), .val (.int k2), .val (.int k3), .val (.int (Int32.ofNat su)), .val (.int (Int32.ofNat eu)), .val (.ref at720), .val (.int (4 : Int32))] [(.int (Int32.ofNat su)), (.ref b658), (.int (own_ch ((((own_L nn c0 c1 c2 c3).drop su).take (eu - su)).getD 1 0)))])) _
              refine own_back (fun t k => XS.iconst X753.here hx rfl (hb hby at_298) k) ?_
              show OwnGo p e below (T753.setTop (mkF m 299 #[.val (.int p1), .val (.int p2), .val (.int p3), .val (.int p4), .val (.int p5), .val (.int (Int32.ofNat nn)), .val (.int c0), .val (.int c1), .val (.int c2), .val (.int c3), .val (.ref b658), .val (.ref am708), .val (.int k0), .val (.int k1), .val (.int k2), .val (.int k3), .val (.int (Int32.ofNat su)), .val (.int (Int32.ofNat eu)), .val (.ref at720), .val (.int (4 : Int32))] [(.int (1 : Int32)), (.int (Int32.ofNat su)), (.ref b658), (.int (own_ch ((((own_L nn c0 c1 c2 c3).drop su).take (eu - su)).getD 1 0)))])) _
              refine own_back (fun t k => XS.iadd X753.here hx rfl (hb hby at_299) rfl k) ?_
              show OwnGo p e below (T753.setTop (mkF m 300 #[.val (.int p1), .val (.int p2), .val (.int p3), .val (.int p4), .val (.int p5), .val (.int (Int32.ofNat nn)), .val (.int c0), .val (.int c1), .val (.int c2), .val (.int c3), .val (.ref b658), .val (.ref am708), .val (.int k0), .val (.int k1), .val (.int k2), .val (.int k3), .val (.int (Int32.ofNat su)), .val (.int (Int32.ofNat eu)), .val (.ref at720), .val (.int (4 : Int32))] [(.int ((Int32.ofNat su) + (1 : Int32))), (.ref b658), (.int (own_ch ((((own_L nn c0 c1 c2 c3).drop su).take (eu - su)).getD 1 0)))])) _
              rw [show (Int32.ofNat su) + (1 : Int32) = Int32.ofNat (su + 1) from (Int32.ofNat_add su 1).symm]
              show OwnGo p e below (T753.setTop (mkF m 300 #[.val (.int p1), .val (.int p2), .val (.int p3), .val (.int p4), .val (.int p5), .val (.int (Int32.ofNat nn)), .val (.int c0), .val (.int c1), .val (.int c2), .val (.int c3), .val (.ref b658), .val (.ref am708), .val (.int k0), .val (.int k1), .val (.int k2), .val (.int k3), .val (.int (Int32.ofNat su)), .val (.int (Int32.ofNat eu)), .val (.ref at720), .val (.int (4 : Int32))] [(.int (Int32.ofNat (su + 1))), (.ref b658), (.int (own_ch ((((own_L nn c0 c1 c2 c3).drop su).take (eu - su)).getD 1 0)))])) _
              obtain ⟨c754, A754, q754, S754, M754, H754, U754⟩ := id f726
              have ib755 : ¬ ((Int32.ofNat (su + 1)) < 0 ∨ c754.slots.size ≤ ((Int32.ofNat (su + 1))).toNatClampNeg) := (inb_of S754 ⟨own_nn (by omega), own_lti (i := (su + 1)) (n := 4) (by decide) (by omega)⟩)
              refine own_back (fun t k => X753.caload hx (j := (Int32.ofNat (su + 1))) (v := (.int (nar .char ([c0, c1, c2, c3].getD (su + 1) 0)))) (own_hat hh753 A754.1) (State.isArrayOf_alike hZr720.alike A754.2.1) A754.2.2 ib755 (H754.at ib755 (own_cs c0 c1 c2 c3 (by omega))) (g := (mkF m 300 #[.val (.int p1), .val (.int p2), .val (.int p3), .val (.int p4), .val (.int p5), .val (.int (Int32.ofNat nn)), .val (.int c0), .val (.int c1), .val (.int c2), .val (.int c3), .val (.ref b658), .val (.ref am708), .val (.int k0), .val (.int k1), .val (.int k2), .val (.int k3), .val (.int (Int32.ofNat su)), .val (.int (Int32.ofNat eu)), .val (.ref at720), .val (.int (4 : Int32))] [(.int (Int32.ofNat (su + 1))), (.ref b658), (.int (own_ch ((((own_L nn c0 c1 c2 c3).drop su).take (eu - su)).getD 1 0)))])) rfl rfl (hb hby at_300) t k) ?_
              show OwnGo p e below (T753.setTop (mkF m 301 #[.val (.int p1), .val (.int p2), .val (.int p3), .val (.int p4), .val (.int p5), .val (.int (Int32.ofNat nn)), .val (.int c0), .val (.int c1), .val (.int c2), .val (.int c3), .val (.ref b658), .val (.ref am708), .val (.int k0), .val (.int k1), .val (.int k2), .val (.int k3), .val (.int (Int32.ofNat su)), .val (.int (Int32.ofNat eu)), .val (.ref at720), .val (.int (4 : Int32))] [(.int (nar .char ([c0, c1, c2, c3].getD (su + 1) 0))), (.int (own_ch ((((own_L nn c0 c1 c2 c3).drop su).take (eu - su)).getD 1 0)))])) _
              refine own_back (fun t k => XS.icmpYes X753.here hx rfl (pc0 := 301) (pc' := 306) rfl (hb hby at_301) rfl (Jvm.Free.XT.ii_eq_t ((own_at2 c0 c1 c2 c3 r0 r1 r2 r3 hn (su := su) (mu := eu - su) (q := 1) (by omega) (by omega)).trans (own_nar (own_rget r0 r1 r2 r3 (by omega))).symm)) (by decide) (by decide) k) ?_
              show OwnGo p e below (T753.setTop (mkF m 306 #[.val (.int p1), .val (.int p2), .val (.int p3), .val (.int p4), .val (.int p5), .val (.int (Int32.ofNat nn)), .val (.int c0), .val (.int c1), .val (.int c2), .val (.int c3), .val (.ref b658), .val (.ref am708), .val (.int k0), .val (.int k1), .val (.int k2), .val (.int k3), .val (.int (Int32.ofNat su)), .val (.int (Int32.ofNat eu)), .val (.ref at720), .val (.int (4 : Int32))] [])) _
              refine own_back (fun t k => XS.iload X753.here hx rfl (hb hby at_306) rfl k) ?_
              show OwnGo p e below (T753.setTop (mkF m 308 #[.val (.int p1), .val (.int p2), .val (.int p3), .val (.int p4), .val (.int p5), .val (.int (Int32.ofNat nn)), .val (.int c0), .val (.int c1), .val (.int c2), .val (.int c3), .val (.ref b658), .val (.ref am708), .val (.int k0), .val (.int k1), .val (.int k2), .val (.int k3), .val (.int (Int32.ofNat su)), .val (.int (Int32.ofNat eu)), .val (.ref at720), .val (.int (4 : Int32))] [(.int (4 : Int32))])) _
              refine own_back (fun t k => XS.iconst X753.here hx rfl (hb hby at_308) k) ?_
              show OwnGo p e below (T753.setTop (mkF m 309 #[.val (.int p1), .val (.int p2), .val (.int p3), .val (.int p4), .val (.int p5), .val (.int (Int32.ofNat nn)), .val (.int c0), .val (.int c1), .val (.int c2), .val (.int c3), .val (.ref b658), .val (.ref am708), .val (.int k0), .val (.int k1), .val (.int k2), .val (.int k3), .val (.int (Int32.ofNat su)), .val (.int (Int32.ofNat eu)), .val (.ref at720), .val (.int (4 : Int32))] [(.int (2 : Int32)), (.int (4 : Int32))])) _
              refine own_back (fun t k => XS.icmpNo X753.here hx rfl (hb hby at_309) rfl (Jvm.Free.XT.ii_le_f (by decide)) k) ?_
              show OwnGo p e below (T753.setTop (mkF m 312 #[.val (.int p1), .val (.int p2), .val (.int p3), .val (.int p4), .val (.int p5), .val (.int (Int32.ofNat nn)), .val (.int c0), .val (.int c1), .val (.int c2), .val (.int c3), .val (.ref b658), .val (.ref am708), .val (.int k0), .val (.int k1), .val (.int k2), .val (.int k3), .val (.int (Int32.ofNat su)), .val (.int (Int32.ofNat eu)), .val (.ref at720), .val (.int (4 : Int32))] [])) _
              refine own_back (fun t k => XS.aload X753.here hx rfl (hb hby at_312) rfl rfl k) ?_
              show OwnGo p e below (T753.setTop (mkF m 314 #[.val (.int p1), .val (.int p2), .val (.int p3), .val (.int p4), .val (.int p5), .val (.int (Int32.ofNat nn)), .val (.int c0), .val (.int c1), .val (.int c2), .val (.int c3), .val (.ref b658), .val (.ref am708), .val (.int k0), .val (.int k1), .val (.int k2), .val (.int k3), .val (.int (Int32.ofNat su)), .val (.int (Int32.ofNat eu)), .val (.ref at720), .val (.int (4 : Int32))] [(.ref at720)])) _
              refine own_back (fun t k => XS.iconst X753.here hx rfl (hb hby at_314) k) ?_
              show OwnGo p e below (T753.setTop (mkF m 315 #[.val (.int p1), .val (.int p2), .val (.int p3), .val (.int p4), .val (.int p5), .val (.int (Int32.ofNat nn)), .val (.int c0), .val (.int c1), .val (.int c2), .val (.int c3), .val (.ref b658), .val (.ref am708), .val (.int k0), .val (.int k1), .val (.int k2), .val (.int k3), .val (.int (Int32.ofNat su)), .val (.int (Int32.ofNat eu)), .val (.ref at720), .val (.int (4 : Int32))] [(.int (2 : Int32)), (.ref at720)])) _
              obtain ⟨cq756, kq756, q756a, q756b, q756c⟩ := isOf hZr720 hh753 B720.exa
              obtain ⟨_, _, ⟨T756, L756, k756, n756⟩, -, X756, ⟨Lc756, hQ756, l756, y756, z756⟩, st756⟩ := X753.virtualBack hx (y := (⟨"java/lang/String", "charAt", "(I)C"⟩ : MethodName)) (z := (⟨"java/lang/String", "charAt", "(I)C"⟩ : MethodName)) hownr720 (mvT hZr720 (hw _ (List.mem_of_getElem? (i := 121) rfl))) (mvT hZr720 (hw _ (List.mem_of_getElem? (i := 74) rfl))) (notFace_of_selects (args := #[]) (mvT hZr720 (hw _ (List.mem_of_getElem? (i := 76) rfl)))) (mvT hZr720 (hw _ (List.mem_of_getElem? (i := 76) rfl))) (mvT hZr720 (hw _ (List.mem_of_getElem? (i := 75) rfl))) (by decide) (own_backN (W := 0) (rm_ch l Z a0 hw [] at720 (((own_L nn c0 c1 c2 c3).drop su).take (eu - su)) 2 cz fm T720.heap n0 Zs723 O721 B720 (by rw [own_rl _ su eu hbl (by omega), hm]; decide) SC hcz SO hfm) hZr720 (hw _ (List.mem_of_getElem? (i := 77) rfl)) (hw _ (List.mem_of_getElem? (i := 11) rfl)) (by decide) (by decide)) q756a q756c (g := (mkF m 315 #[.val (.int p1), .val (.int p2), .val (.int p3), .val (.int p4), .val (.int p5), .val (.int (Int32.ofNat nn)), .val (.int c0), .val (.int c1), .val (.int c2), .val (.int c3), .val (.ref b658), .val (.ref am708), .val (.int k0), .val (.int k1), .val (.int k2), .val (.int k3), .val (.int (Int32.ofNat su)), .val (.int (Int32.ofNat eu)), .val (.ref at720), .val (.int (4 : Int32))] [(.int (2 : Int32)), (.ref at720)])) rfl (by rw [hml]; rfl) (Steps.refl _) (argsL := [(.int (2 : Int32))]) (rest := []) (lenOf lw_pd0 rfl) rfl (by show 2 * 0 + _ ≤ _; exact Nat.le_of_eq rfl) (hb hby at_315) (fun _ _ => ⟨rfl, hh753, Nat.le_of_ble_eq_true rfl, Nat.le_of_ble_eq_true rfl⟩)
              dsimp only [Pt.U, Pt.locs, Pt.cells, Pt.slots] at X756 l756 y756 z756 st756 hQ756
              subst l756 y756 z756
              obtain ⟨rfl, N756q, hh756⟩ := hQ756
              refine own_seq st756 ?_
              have N756 := Fr.app N753 N756q
              show OwnGo p e below (T756.setTop (mkF m 318 #[.val (.int p1), .val (.int p2), .val (.int p3), .val (.int p4), .val (.int p5), .val (.int (Int32.ofNat nn)), .val (.int c0), .val (.int c1), .val (.int c2), .val (.int c3), .val (.ref b658), .val (.ref am708), .val (.int k0), .val (.int k1), .val (.int k2), .val (.int k3), .val (.int (Int32.ofNat su)), .val (.int (Int32.ofNat eu)), .val (.ref at720), .val (.int (4 : Int32))] [(.int (own_ch ((((own_L nn c0 c1 c2 c3).drop su).take (eu - su)).getD 2 0)))])) _
              refine own_back (fun t k => XS.aload X756.here hx rfl (hb hby at_318) rfl rfl k) ?_
              show OwnGo p e below (T756.setTop (mkF m 320 #[.val (.int p1), .val (.int p2), .val (.int p3), .val (.int p4), .val (.int p5), .val (.int (Int32.ofNat nn)), .val (.int c0), .val (.int c1), .val (.int c2), .val (.int c3), .val (.ref b658), .val (.ref am708), .val (.int k0), .val (.int k1), .val (.int k2), .val (.int k3), .val (.int (Int32.ofNat su)), .val (.int (Int32.ofNat eu)), .val (.ref at720), .val (.int (4 : Int32))] [(.ref b658), (.int (own_ch ((((own_L nn c0 c1 c2 c3).drop su).take (eu - su)).getD 2 0)))])) _
              refine own_back (fun t k => XS.iload X756.here hx rfl (hb hby at_320) rfl k) ?_
              show OwnGo p e below (T756.setTop (mkF m 322 #[.val (.int p1), .val (.int p2), .val (.int p3), .val (.int p4), .val (.int p5), .val (.int (Int32.ofNat nn)), .val (.int c0), .val (.int c1), .val (.int c2), .val (.int c3), .val (.ref b658), .val (.ref am708), .val (.int k0), .val (.int k1), .val (.int k2), .val (.int k3), .val (.int (Int32.ofNat su)), .val (.int (Int32.ofNat eu)), .val (.ref at720), .val (.int (4 : Int32))] [(.int (Int32.ofNat su)), (.ref b658), (.int (own_ch ((((own_L nn c0 c1 c2 c3).drop su).take (eu - su)).getD 2 0)))])) _
              refine own_back (fun t k => XS.iconst X756.here hx rfl (hb hby at_322) k) ?_
              show OwnGo p e below (T756.setTop (mkF m 323 #[.val (.int p1), .val (.int p2), .val (.int p3), .val (.int p4), .val (.int p5), .val (.int (Int32.ofNat nn)), .val (.int c0), .val (.int c1), .val (.int c2), .val (.int c3), .val (.ref b658), .val (.ref am708), .val (.int k0), .val (.int k1), .val (.int k2), .val (.int k3), .val (.int (Int32.ofNat su)), .val (.int (Int32.ofNat eu)), .val (.ref at720), .val (.int (4 : Int32))] [(.int (2 : Int32)), (.int (Int32.ofNat su)), (.ref b658), (.int (own_ch ((((own_L nn c0 c1 c2 c3).drop su).take (eu - su)).getD 2 0)))])) _
              refine own_back (fun t k => XS.iadd X756.here hx rfl (hb hby at_323) rfl k) ?_
              show OwnGo p e below (T756.setTop (mkF m 324 #[.val (.int p1), .val (.int p2), .val (.int p3), .val (.int p4), .val (.int p5), .val (.int (Int32.ofNat nn)), .val (.int c0), .val (.int c1), .val (.int c2), .val (.int c3), .val (.ref b658), .val (.ref am708), .val (.int k0), .val (.int k1), .val (.int k2), .val (.int k3), .val (.int (Int32.ofNat su)), .val (.int (Int32.ofNat eu)), .val (.ref at720), .val (.int (4 : Int32))] [(.int ((Int32.ofNat su) + (2 : Int32))), (.ref b658), (.int (own_ch ((((own_L nn c0 c1 c2 c3).drop su).take (eu - su)).getD 2 0)))])) _
              rw [show (Int32.ofNat su) + (2 : Int32) = Int32.ofNat (su + 2) from (Int32.ofNat_add su 2).symm]
              show OwnGo p e below (T756.setTop (mkF m 324 #[.val (.int p1), .val (.int p2), .val (.int p3), .val (.int p4), .val (.int p5), .val (.int (Int32.ofNat nn)), .val (.int c0), .val (.int c1), .val (.int c2), .val (.int c3), .val (.ref b658), .val (.ref am708), .val (.int k0), .val (.int k1), .val (.int k2), .val (.int k3), .val (.int (Int32.ofNat su)), .val (.int (Int32.ofNat eu)), .val (.ref at720), .val (.int (4 : Int32))] [(.int (Int32.ofNat (su + 2))), (.ref b658), (.int (own_ch ((((own_L nn c0 c1 c2 c3).drop su).take (eu - su)).getD 2 0)))])) _
              obtain ⟨c757, A757, q757, S757, M757, H757, U757⟩ := id f726
              have ib758 : ¬ ((Int32.ofNat (su + 2)) < 0 ∨ c757.slots.size ≤ ((Int32.ofNat (su + 2))).toNatClampNeg) := (inb_of S757 ⟨own_nn (by omega), own_lti (i := (su + 2)) (n := 4) (by decide) (by omega)⟩)
              refine own_back (fun t k => X756.caload hx (j := (Int32.ofNat (su + 2))) (v := (.int (nar .char ([c0, c1, c2, c3].getD (su + 2) 0)))) (own_hat hh756 A757.1) (State.isArrayOf_alike hZr720.alike A757.2.1) A757.2.2 ib758 (H757.at ib758 (own_cs c0 c1 c2 c3 (by omega))) (g := (mkF m 324 #[.val (.int p1), .val (.int p2), .val (.int p3), .val (.int p4), .val (.int p5), .val (.int (Int32.ofNat nn)), .val (.int c0), .val (.int c1), .val (.int c2), .val (.int c3), .val (.ref b658), .val (.ref am708), .val (.int k0), .val (.int k1), .val (.int k2), .val (.int k3), .val (.int (Int32.ofNat su)), .val (.int (Int32.ofNat eu)), .val (.ref at720), .val (.int (4 : Int32))] [(.int (Int32.ofNat (su + 2))), (.ref b658), (.int (own_ch ((((own_L nn c0 c1 c2 c3).drop su).take (eu - su)).getD 2 0)))])) rfl rfl (hb hby at_324) t k) ?_
              show OwnGo p e below (T756.setTop (mkF m 325 #[.val (.int p1), .val (.int p2), .val (.int p3), .val (.int p4), .val (.int p5), .val (.int (Int32.ofNat nn)), .val (.int c0), .val (.int c1), .val (.int c2), .val (.int c3), .val (.ref b658), .val (.ref am708), .val (.int k0), .val (.int k1), .val (.int k2), .val (.int k3), .val (.int (Int32.ofNat su)), .val (.int (Int32.ofNat eu)), .val (.ref at720), .val (.int (4 : Int32))] [(.int (nar .char ([c0, c1, c2, c3].getD (su + 2) 0))), (.int (own_ch ((((own_L nn c0 c1 c2 c3).drop su).take (eu - su)).getD 2 0)))])) _
              refine own_back (fun t k => XS.icmpYes X756.here hx rfl (pc0 := 325) (pc' := 330) rfl (hb hby at_325) rfl (Jvm.Free.XT.ii_eq_t ((own_at2 c0 c1 c2 c3 r0 r1 r2 r3 hn (su := su) (mu := eu - su) (q := 2) (by omega) (by omega)).trans (own_nar (own_rget r0 r1 r2 r3 (by omega))).symm)) (by decide) (by decide) k) ?_
              show OwnGo p e below (T756.setTop (mkF m 330 #[.val (.int p1), .val (.int p2), .val (.int p3), .val (.int p4), .val (.int p5), .val (.int (Int32.ofNat nn)), .val (.int c0), .val (.int c1), .val (.int c2), .val (.int c3), .val (.ref b658), .val (.ref am708), .val (.int k0), .val (.int k1), .val (.int k2), .val (.int k3), .val (.int (Int32.ofNat su)), .val (.int (Int32.ofNat eu)), .val (.ref at720), .val (.int (4 : Int32))] [])) _
              refine own_back (fun t k => XS.iload X756.here hx rfl (hb hby at_330) rfl k) ?_
              show OwnGo p e below (T756.setTop (mkF m 332 #[.val (.int p1), .val (.int p2), .val (.int p3), .val (.int p4), .val (.int p5), .val (.int (Int32.ofNat nn)), .val (.int c0), .val (.int c1), .val (.int c2), .val (.int c3), .val (.ref b658), .val (.ref am708), .val (.int k0), .val (.int k1), .val (.int k2), .val (.int k3), .val (.int (Int32.ofNat su)), .val (.int (Int32.ofNat eu)), .val (.ref at720), .val (.int (4 : Int32))] [(.int (4 : Int32))])) _
              refine own_back (fun t k => XS.iconst X756.here hx rfl (hb hby at_332) k) ?_
              show OwnGo p e below (T756.setTop (mkF m 333 #[.val (.int p1), .val (.int p2), .val (.int p3), .val (.int p4), .val (.int p5), .val (.int (Int32.ofNat nn)), .val (.int c0), .val (.int c1), .val (.int c2), .val (.int c3), .val (.ref b658), .val (.ref am708), .val (.int k0), .val (.int k1), .val (.int k2), .val (.int k3), .val (.int (Int32.ofNat su)), .val (.int (Int32.ofNat eu)), .val (.ref at720), .val (.int (4 : Int32))] [(.int (3 : Int32)), (.int (4 : Int32))])) _
              refine own_back (fun t k => XS.icmpNo X756.here hx rfl (hb hby at_333) rfl (Jvm.Free.XT.ii_le_f (by decide)) k) ?_
              show OwnGo p e below (T756.setTop (mkF m 336 #[.val (.int p1), .val (.int p2), .val (.int p3), .val (.int p4), .val (.int p5), .val (.int (Int32.ofNat nn)), .val (.int c0), .val (.int c1), .val (.int c2), .val (.int c3), .val (.ref b658), .val (.ref am708), .val (.int k0), .val (.int k1), .val (.int k2), .val (.int k3), .val (.int (Int32.ofNat su)), .val (.int (Int32.ofNat eu)), .val (.ref at720), .val (.int (4 : Int32))] [])) _
              refine own_back (fun t k => XS.aload X756.here hx rfl (hb hby at_336) rfl rfl k) ?_
              show OwnGo p e below (T756.setTop (mkF m 338 #[.val (.int p1), .val (.int p2), .val (.int p3), .val (.int p4), .val (.int p5), .val (.int (Int32.ofNat nn)), .val (.int c0), .val (.int c1), .val (.int c2), .val (.int c3), .val (.ref b658), .val (.ref am708), .val (.int k0), .val (.int k1), .val (.int k2), .val (.int k3), .val (.int (Int32.ofNat su)), .val (.int (Int32.ofNat eu)), .val (.ref at720), .val (.int (4 : Int32))] [(.ref at720)])) _
              refine own_back (fun t k => XS.iconst X756.here hx rfl (hb hby at_338) k) ?_
              show OwnGo p e below (T756.setTop (mkF m 339 #[.val (.int p1), .val (.int p2), .val (.int p3), .val (.int p4), .val (.int p5), .val (.int (Int32.ofNat nn)), .val (.int c0), .val (.int c1), .val (.int c2), .val (.int c3), .val (.ref b658), .val (.ref am708), .val (.int k0), .val (.int k1), .val (.int k2), .val (.int k3), .val (.int (Int32.ofNat su)), .val (.int (Int32.ofNat eu)), .val (.ref at720), .val (.int (4 : Int32))] [(.int (3 : Int32)), (.ref at720)])) _
              obtain ⟨cq759, kq759, q759a, q759b, q759c⟩ := isOf hZr720 hh756 B720.exa
              obtain ⟨_, _, ⟨T759, L759, k759, n759⟩, -, X759, ⟨Lc759, hQ759, l759, y759, z759⟩, st759⟩ := X756.virtualBack hx (y := (⟨"java/lang/String", "charAt", "(I)C"⟩ : MethodName)) (z := (⟨"java/lang/String", "charAt", "(I)C"⟩ : MethodName)) hownr720 (mvT hZr720 (hw _ (List.mem_of_getElem? (i := 121) rfl))) (mvT hZr720 (hw _ (List.mem_of_getElem? (i := 74) rfl))) (notFace_of_selects (args := #[]) (mvT hZr720 (hw _ (List.mem_of_getElem? (i := 76) rfl)))) (mvT hZr720 (hw _ (List.mem_of_getElem? (i := 76) rfl))) (mvT hZr720 (hw _ (List.mem_of_getElem? (i := 75) rfl))) (by decide) (own_backN (W := 0) (rm_ch l Z a0 hw [] at720 (((own_L nn c0 c1 c2 c3).drop su).take (eu - su)) 3 cz fm T720.heap n0 Zs723 O721 B720 (by rw [own_rl _ su eu hbl (by omega), hm]; decide) SC hcz SO hfm) hZr720 (hw _ (List.mem_of_getElem? (i := 77) rfl)) (hw _ (List.mem_of_getElem? (i := 11) rfl)) (by decide) (by decide)) q759a q759c (g := (mkF m 339 #[.val (.int p1), .val (.int p2), .val (.int p3), .val (.int p4), .val (.int p5), .val (.int (Int32.ofNat nn)), .val (.int c0), .val (.int c1), .val (.int c2), .val (.int c3), .val (.ref b658), .val (.ref am708), .val (.int k0), .val (.int k1), .val (.int k2), .val (.int k3), .val (.int (Int32.ofNat su)), .val (.int (Int32.ofNat eu)), .val (.ref at720), .val (.int (4 : Int32))] [(.int (3 : Int32)), (.ref at720)])) rfl (by rw [hml]; rfl) (Steps.refl _) (argsL := [(.int (3 : Int32))]) (rest := []) (lenOf lw_pd0 rfl) rfl (by show 2 * 0 + _ ≤ _; exact Nat.le_of_eq rfl) (hb hby at_339) (fun _ _ => ⟨rfl, hh756, Nat.le_of_ble_eq_true rfl, Nat.le_of_ble_eq_true rfl⟩)
              dsimp only [Pt.U, Pt.locs, Pt.cells, Pt.slots] at X759 l759 y759 z759 st759 hQ759
              subst l759 y759 z759
              obtain ⟨rfl, N759q, hh759⟩ := hQ759
              refine own_seq st759 ?_
              have N759 := Fr.app N756 N759q
              show OwnGo p e below (T759.setTop (mkF m 342 #[.val (.int p1), .val (.int p2), .val (.int p3), .val (.int p4), .val (.int p5), .val (.int (Int32.ofNat nn)), .val (.int c0), .val (.int c1), .val (.int c2), .val (.int c3), .val (.ref b658), .val (.ref am708), .val (.int k0), .val (.int k1), .val (.int k2), .val (.int k3), .val (.int (Int32.ofNat su)), .val (.int (Int32.ofNat eu)), .val (.ref at720), .val (.int (4 : Int32))] [(.int (own_ch ((((own_L nn c0 c1 c2 c3).drop su).take (eu - su)).getD 3 0)))])) _
              refine own_back (fun t k => XS.aload X759.here hx rfl (hb hby at_342) rfl rfl k) ?_
              show OwnGo p e below (T759.setTop (mkF m 344 #[.val (.int p1), .val (.int p2), .val (.int p3), .val (.int p4), .val (.int p5), .val (.int (Int32.ofNat nn)), .val (.int c0), .val (.int c1), .val (.int c2), .val (.int c3), .val (.ref b658), .val (.ref am708), .val (.int k0), .val (.int k1), .val (.int k2), .val (.int k3), .val (.int (Int32.ofNat su)), .val (.int (Int32.ofNat eu)), .val (.ref at720), .val (.int (4 : Int32))] [(.ref b658), (.int (own_ch ((((own_L nn c0 c1 c2 c3).drop su).take (eu - su)).getD 3 0)))])) _
              refine own_back (fun t k => XS.iload X759.here hx rfl (hb hby at_344) rfl k) ?_
              show OwnGo p e below (T759.setTop (mkF m 346 #[.val (.int p1), .val (.int p2), .val (.int p3), .val (.int p4), .val (.int p5), .val (.int (Int32.ofNat nn)), .val (.int c0), .val (.int c1), .val (.int c2), .val (.int c3), .val (.ref b658), .val (.ref am708), .val (.int k0), .val (.int k1), .val (.int k2), .val (.int k3), .val (.int (Int32.ofNat su)), .val (.int (Int32.ofNat eu)), .val (.ref at720), .val (.int (4 : Int32))] [(.int (Int32.ofNat su)), (.ref b658), (.int (own_ch ((((own_L nn c0 c1 c2 c3).drop su).take (eu - su)).getD 3 0)))])) _
              refine own_back (fun t k => XS.iconst X759.here hx rfl (hb hby at_346) k) ?_
              show OwnGo p e below (T759.setTop (mkF m 347 #[.val (.int p1), .val (.int p2), .val (.int p3), .val (.int p4), .val (.int p5), .val (.int (Int32.ofNat nn)), .val (.int c0), .val (.int c1), .val (.int c2), .val (.int c3), .val (.ref b658), .val (.ref am708), .val (.int k0), .val (.int k1), .val (.int k2), .val (.int k3), .val (.int (Int32.ofNat su)), .val (.int (Int32.ofNat eu)), .val (.ref at720), .val (.int (4 : Int32))] [(.int (3 : Int32)), (.int (Int32.ofNat su)), (.ref b658), (.int (own_ch ((((own_L nn c0 c1 c2 c3).drop su).take (eu - su)).getD 3 0)))])) _
              refine own_back (fun t k => XS.iadd X759.here hx rfl (hb hby at_347) rfl k) ?_
              show OwnGo p e below (T759.setTop (mkF m 348 #[.val (.int p1), .val (.int p2), .val (.int p3), .val (.int p4), .val (.int p5), .val (.int (Int32.ofNat nn)), .val (.int c0), .val (.int c1), .val (.int c2), .val (.int c3), .val (.ref b658), .val (.ref am708), .val (.int k0), .val (.int k1), .val (.int k2), .val (.int k3), .val (.int (Int32.ofNat su)), .val (.int (Int32.ofNat eu)), .val (.ref at720), .val (.int (4 : Int32))] [(.int ((Int32.ofNat su) + (3 : Int32))), (.ref b658), (.int (own_ch ((((own_L nn c0 c1 c2 c3).drop su).take (eu - su)).getD 3 0)))])) _
              rw [show (Int32.ofNat su) + (3 : Int32) = Int32.ofNat (su + 3) from (Int32.ofNat_add su 3).symm]
              show OwnGo p e below (T759.setTop (mkF m 348 #[.val (.int p1), .val (.int p2), .val (.int p3), .val (.int p4), .val (.int p5), .val (.int (Int32.ofNat nn)), .val (.int c0), .val (.int c1), .val (.int c2), .val (.int c3), .val (.ref b658), .val (.ref am708), .val (.int k0), .val (.int k1), .val (.int k2), .val (.int k3), .val (.int (Int32.ofNat su)), .val (.int (Int32.ofNat eu)), .val (.ref at720), .val (.int (4 : Int32))] [(.int (Int32.ofNat (su + 3))), (.ref b658), (.int (own_ch ((((own_L nn c0 c1 c2 c3).drop su).take (eu - su)).getD 3 0)))])) _
              obtain ⟨c760, A760, q760, S760, M760, H760, U760⟩ := id f726
              have ib761 : ¬ ((Int32.ofNat (su + 3)) < 0 ∨ c760.slots.size ≤ ((Int32.ofNat (su + 3))).toNatClampNeg) := (inb_of S760 ⟨own_nn (by omega), own_lti (i := (su + 3)) (n := 4) (by decide) (by omega)⟩)
              refine own_back (fun t k => X759.caload hx (j := (Int32.ofNat (su + 3))) (v := (.int (nar .char ([c0, c1, c2, c3].getD (su + 3) 0)))) (own_hat hh759 A760.1) (State.isArrayOf_alike hZr720.alike A760.2.1) A760.2.2 ib761 (H760.at ib761 (own_cs c0 c1 c2 c3 (by omega))) (g := (mkF m 348 #[.val (.int p1), .val (.int p2), .val (.int p3), .val (.int p4), .val (.int p5), .val (.int (Int32.ofNat nn)), .val (.int c0), .val (.int c1), .val (.int c2), .val (.int c3), .val (.ref b658), .val (.ref am708), .val (.int k0), .val (.int k1), .val (.int k2), .val (.int k3), .val (.int (Int32.ofNat su)), .val (.int (Int32.ofNat eu)), .val (.ref at720), .val (.int (4 : Int32))] [(.int (Int32.ofNat (su + 3))), (.ref b658), (.int (own_ch ((((own_L nn c0 c1 c2 c3).drop su).take (eu - su)).getD 3 0)))])) rfl rfl (hb hby at_348) t k) ?_
              show OwnGo p e below (T759.setTop (mkF m 349 #[.val (.int p1), .val (.int p2), .val (.int p3), .val (.int p4), .val (.int p5), .val (.int (Int32.ofNat nn)), .val (.int c0), .val (.int c1), .val (.int c2), .val (.int c3), .val (.ref b658), .val (.ref am708), .val (.int k0), .val (.int k1), .val (.int k2), .val (.int k3), .val (.int (Int32.ofNat su)), .val (.int (Int32.ofNat eu)), .val (.ref at720), .val (.int (4 : Int32))] [(.int (nar .char ([c0, c1, c2, c3].getD (su + 3) 0))), (.int (own_ch ((((own_L nn c0 c1 c2 c3).drop su).take (eu - su)).getD 3 0)))])) _
              refine own_back (fun t k => XS.icmpYes X759.here hx rfl (pc0 := 349) (pc' := 354) rfl (hb hby at_349) rfl (Jvm.Free.XT.ii_eq_t ((own_at2 c0 c1 c2 c3 r0 r1 r2 r3 hn (su := su) (mu := eu - su) (q := 3) (by omega) (by omega)).trans (own_nar (own_rget r0 r1 r2 r3 (by omega))).symm)) (by decide) (by decide) k) ?_
              show OwnGo p e below (T759.setTop (mkF m 354 #[.val (.int p1), .val (.int p2), .val (.int p3), .val (.int p4), .val (.int p5), .val (.int (Int32.ofNat nn)), .val (.int c0), .val (.int c1), .val (.int c2), .val (.int c3), .val (.ref b658), .val (.ref am708), .val (.int k0), .val (.int k1), .val (.int k2), .val (.int k3), .val (.int (Int32.ofNat su)), .val (.int (Int32.ofNat eu)), .val (.ref at720), .val (.int (4 : Int32))] [])) _
              refine own_back (fun t k => XS.iconst X759.here hx rfl (hb hby at_354) k) ?_
              show OwnGo p e below (T759.setTop (mkF m 355 #[.val (.int p1), .val (.int p2), .val (.int p3), .val (.int p4), .val (.int p5), .val (.int (Int32.ofNat nn)), .val (.int c0), .val (.int c1), .val (.int c2), .val (.int c3), .val (.ref b658), .val (.ref am708), .val (.int k0), .val (.int k1), .val (.int k2), .val (.int k3), .val (.int (Int32.ofNat su)), .val (.int (Int32.ofNat eu)), .val (.ref at720), .val (.int (4 : Int32))] [(.int (1 : Int32))])) _
              refine own_retNW X759 hx Bd.notSynchronized (t := .boolean) (z := (1 : Int32)) Bd.returns (by simp) rfl hSr720 (Nat.le_refl _) hZr720 hEL (hh ▸ CR724) (hb hby at_355) hh759 (Nat.le_of_ble_eq_true rfl) (Nat.le_of_ble_eq_true rfl) ?_
              exact ⟨rfl, N759⟩
          refine own_back (fun t k => XS.iload Xj718.here hx rfl (hb hby at_160) rfl k) ?_
          show OwnGo p e below (Tj718.setTop (mkF m 162 #[.val (.int p1), .val (.int p2), .val (.int p3), .val (.int p4), .val (.int p5), .val (.int (Int32.ofNat nn)), .val (.int c0), .val (.int c1), .val (.int c2), .val (.int c3), .val (.ref b658), .val (.ref am708), .val (.int k0), .val (.int k1), .val (.int k2), .val (.int k3), .val (.int (Int32.ofNat nn)), .unset, .unset, .unset] [(.int k3)])) _
          by_cases hc162_762 : k3 = (0 : Int32)
          · refine own_back (fun t k => XS.ifYes Xj718.here hx rfl (pc0 := 162) (pc' := 168) rfl (hb hby at_162) rfl (Jvm.Free.XT.i0_eq_t hc162_762) (by decide) (by decide) k) ?_
            show OwnGo p e below (Tj718.setTop (mkF m 168 #[.val (.int p1), .val (.int p2), .val (.int p3), .val (.int p4), .val (.int p5), .val (.int (Int32.ofNat nn)), .val (.int c0), .val (.int c1), .val (.int c2), .val (.int c3), .val (.ref b658), .val (.ref am708), .val (.int k0), .val (.int k1), .val (.int k2), .val (.int k3), .val (.int (Int32.ofNat nn)), .unset, .unset, .unset] [])) _
            refine own_back (fun t k => XS.iload Xj718.here hx rfl (hb hby at_168) rfl k) ?_
            show OwnGo p e below (Tj718.setTop (mkF m 170 #[.val (.int p1), .val (.int p2), .val (.int p3), .val (.int p4), .val (.int p5), .val (.int (Int32.ofNat nn)), .val (.int c0), .val (.int c1), .val (.int c2), .val (.int c3), .val (.ref b658), .val (.ref am708), .val (.int k0), .val (.int k1), .val (.int k2), .val (.int k3), .val (.int (Int32.ofNat nn)), .unset, .unset, .unset] [(.int k2)])) _
            by_cases hc170_763 : k2 = (0 : Int32)
            · refine own_back (fun t k => XS.ifYes Xj718.here hx rfl (pc0 := 170) (pc' := 176) rfl (hb hby at_170) rfl (Jvm.Free.XT.i0_eq_t hc170_763) (by decide) (by decide) k) ?_
              show OwnGo p e below (Tj718.setTop (mkF m 176 #[.val (.int p1), .val (.int p2), .val (.int p3), .val (.int p4), .val (.int p5), .val (.int (Int32.ofNat nn)), .val (.int c0), .val (.int c1), .val (.int c2), .val (.int c3), .val (.ref b658), .val (.ref am708), .val (.int k0), .val (.int k1), .val (.int k2), .val (.int k3), .val (.int (Int32.ofNat nn)), .unset, .unset, .unset] [])) _
              refine own_back (fun t k => XS.iload Xj718.here hx rfl (hb hby at_176) rfl k) ?_
              show OwnGo p e below (Tj718.setTop (mkF m 178 #[.val (.int p1), .val (.int p2), .val (.int p3), .val (.int p4), .val (.int p5), .val (.int (Int32.ofNat nn)), .val (.int c0), .val (.int c1), .val (.int c2), .val (.int c3), .val (.ref b658), .val (.ref am708), .val (.int k0), .val (.int k1), .val (.int k2), .val (.int k3), .val (.int (Int32.ofNat nn)), .unset, .unset, .unset] [(.int k1)])) _
              by_cases hc178_764 : k1 = (0 : Int32)
              · refine own_back (fun t k => XS.ifYes Xj718.here hx rfl (pc0 := 178) (pc' := 184) rfl (hb hby at_178) rfl (Jvm.Free.XT.i0_eq_t hc178_764) (by decide) (by decide) k) ?_
                show OwnGo p e below (Tj718.setTop (mkF m 184 #[.val (.int p1), .val (.int p2), .val (.int p3), .val (.int p4), .val (.int p5), .val (.int (Int32.ofNat nn)), .val (.int c0), .val (.int c1), .val (.int c2), .val (.int c3), .val (.ref b658), .val (.ref am708), .val (.int k0), .val (.int k1), .val (.int k2), .val (.int k3), .val (.int (Int32.ofNat nn)), .unset, .unset, .unset] [])) _
                refine own_back (fun t k => XS.iload Xj718.here hx rfl (hb hby at_184) rfl k) ?_
                show OwnGo p e below (Tj718.setTop (mkF m 186 #[.val (.int p1), .val (.int p2), .val (.int p3), .val (.int p4), .val (.int p5), .val (.int (Int32.ofNat nn)), .val (.int c0), .val (.int c1), .val (.int c2), .val (.int c3), .val (.ref b658), .val (.ref am708), .val (.int k0), .val (.int k1), .val (.int k2), .val (.int k3), .val (.int (Int32.ofNat nn)), .unset, .unset, .unset] [(.int k0)])) _
                by_cases hc186_765 : k0 = (0 : Int32)
                · refine own_back (fun t k => XS.ifYes Xj718.here hx rfl (pc0 := 186) (pc' := 192) rfl (hb hby at_186) rfl (Jvm.Free.XT.i0_eq_t hc186_765) (by decide) (by decide) k) ?_
                  show OwnGo p e below (Tj718.setTop (mkF m 192 #[.val (.int p1), .val (.int p2), .val (.int p3), .val (.int p4), .val (.int p5), .val (.int (Int32.ofNat nn)), .val (.int c0), .val (.int c1), .val (.int c2), .val (.int c3), .val (.ref b658), .val (.ref am708), .val (.int k0), .val (.int k1), .val (.int k2), .val (.int k3), .val (.int (Int32.ofNat nn)), .unset, .unset, .unset] [])) _
                  refine own_back (fun t k => XS.iload Xj718.here hx rfl (hb hby at_192) rfl k) ?_
                  show OwnGo p e below (Tj718.setTop (mkF m 194 #[.val (.int p1), .val (.int p2), .val (.int p3), .val (.int p4), .val (.int p5), .val (.int (Int32.ofNat nn)), .val (.int c0), .val (.int c1), .val (.int c2), .val (.int c3), .val (.ref b658), .val (.ref am708), .val (.int k0), .val (.int k1), .val (.int k2), .val (.int k3), .val (.int (Int32.ofNat nn)), .unset, .unset, .unset] [(.int (Int32.ofNat nn))])) _
                  refine own_back (fun t k => XS.istore Xj718.here hx rfl (hb hby at_194) rfl (l' := #[.val (.int p1), .val (.int p2), .val (.int p3), .val (.int p4), .val (.int p5), .val (.int (Int32.ofNat nn)), .val (.int c0), .val (.int c1), .val (.int c2), .val (.int c3), .val (.ref b658), .val (.ref am708), .val (.int k0), .val (.int k1), .val (.int k2), .val (.int k3), .val (.int (Int32.ofNat nn)), .val (.int (Int32.ofNat nn)), .unset, .unset]) rfl k) ?_
                  show OwnGo p e below (Tj718.setTop (mkF m 196 #[.val (.int p1), .val (.int p2), .val (.int p3), .val (.int p4), .val (.int p5), .val (.int (Int32.ofNat nn)), .val (.int c0), .val (.int c1), .val (.int c2), .val (.int c3), .val (.ref b658), .val (.ref am708), .val (.int k0), .val (.int k1), .val (.int k2), .val (.int k3), .val (.int (Int32.ofNat nn)), .val (.int (Int32.ofNat nn)), .unset, .unset] [])) _
                  refine own_back (fun t k => XS.iload Xj718.here hx rfl (hb hby at_196) rfl k) ?_
                  show OwnGo p e below (Tj718.setTop (mkF m 198 #[.val (.int p1), .val (.int p2), .val (.int p3), .val (.int p4), .val (.int p5), .val (.int (Int32.ofNat nn)), .val (.int c0), .val (.int c1), .val (.int c2), .val (.int c3), .val (.ref b658), .val (.ref am708), .val (.int k0), .val (.int k1), .val (.int k2), .val (.int k3), .val (.int (Int32.ofNat nn)), .val (.int (Int32.ofNat nn)), .unset, .unset] [(.int k0)])) _
                  refine own_back (fun t k => XS.ifYes Xj718.here hx rfl (pc0 := 198) (pc' := 204) rfl (hb hby at_198) rfl (Jvm.Free.XT.i0_eq_t hc186_765) (by decide) (by decide) k) ?_
                  show OwnGo p e below (Tj718.setTop (mkF m 204 #[.val (.int p1), .val (.int p2), .val (.int p3), .val (.int p4), .val (.int p5), .val (.int (Int32.ofNat nn)), .val (.int c0), .val (.int c1), .val (.int c2), .val (.int c3), .val (.ref b658), .val (.ref am708), .val (.int k0), .val (.int k1), .val (.int k2), .val (.int k3), .val (.int (Int32.ofNat nn)), .val (.int (Int32.ofNat nn)), .unset, .unset] [])) _
                  refine own_back (fun t k => XS.iload Xj718.here hx rfl (hb hby at_204) rfl k) ?_
                  show OwnGo p e below (Tj718.setTop (mkF m 206 #[.val (.int p1), .val (.int p2), .val (.int p3), .val (.int p4), .val (.int p5), .val (.int (Int32.ofNat nn)), .val (.int c0), .val (.int c1), .val (.int c2), .val (.int c3), .val (.ref b658), .val (.ref am708), .val (.int k0), .val (.int k1), .val (.int k2), .val (.int k3), .val (.int (Int32.ofNat nn)), .val (.int (Int32.ofNat nn)), .unset, .unset] [(.int k1)])) _
                  refine own_back (fun t k => XS.ifYes Xj718.here hx rfl (pc0 := 206) (pc' := 212) rfl (hb hby at_206) rfl (Jvm.Free.XT.i0_eq_t hc178_764) (by decide) (by decide) k) ?_
                  show OwnGo p e below (Tj718.setTop (mkF m 212 #[.val (.int p1), .val (.int p2), .val (.int p3), .val (.int p4), .val (.int p5), .val (.int (Int32.ofNat nn)), .val (.int c0), .val (.int c1), .val (.int c2), .val (.int c3), .val (.ref b658), .val (.ref am708), .val (.int k0), .val (.int k1), .val (.int k2), .val (.int k3), .val (.int (Int32.ofNat nn)), .val (.int (Int32.ofNat nn)), .unset, .unset] [])) _
                  refine own_back (fun t k => XS.iload Xj718.here hx rfl (hb hby at_212) rfl k) ?_
                  show OwnGo p e below (Tj718.setTop (mkF m 214 #[.val (.int p1), .val (.int p2), .val (.int p3), .val (.int p4), .val (.int p5), .val (.int (Int32.ofNat nn)), .val (.int c0), .val (.int c1), .val (.int c2), .val (.int c3), .val (.ref b658), .val (.ref am708), .val (.int k0), .val (.int k1), .val (.int k2), .val (.int k3), .val (.int (Int32.ofNat nn)), .val (.int (Int32.ofNat nn)), .unset, .unset] [(.int k2)])) _
                  refine own_back (fun t k => XS.ifYes Xj718.here hx rfl (pc0 := 214) (pc' := 220) rfl (hb hby at_214) rfl (Jvm.Free.XT.i0_eq_t hc170_763) (by decide) (by decide) k) ?_
                  show OwnGo p e below (Tj718.setTop (mkF m 220 #[.val (.int p1), .val (.int p2), .val (.int p3), .val (.int p4), .val (.int p5), .val (.int (Int32.ofNat nn)), .val (.int c0), .val (.int c1), .val (.int c2), .val (.int c3), .val (.ref b658), .val (.ref am708), .val (.int k0), .val (.int k1), .val (.int k2), .val (.int k3), .val (.int (Int32.ofNat nn)), .val (.int (Int32.ofNat nn)), .unset, .unset] [])) _
                  refine own_back (fun t k => XS.iload Xj718.here hx rfl (hb hby at_220) rfl k) ?_
                  show OwnGo p e below (Tj718.setTop (mkF m 222 #[.val (.int p1), .val (.int p2), .val (.int p3), .val (.int p4), .val (.int p5), .val (.int (Int32.ofNat nn)), .val (.int c0), .val (.int c1), .val (.int c2), .val (.int c3), .val (.ref b658), .val (.ref am708), .val (.int k0), .val (.int k1), .val (.int k2), .val (.int k3), .val (.int (Int32.ofNat nn)), .val (.int (Int32.ofNat nn)), .unset, .unset] [(.int k3)])) _
                  refine own_back (fun t k => XS.ifYes Xj718.here hx rfl (pc0 := 222) (pc' := 228) rfl (hb hby at_222) rfl (Jvm.Free.XT.i0_eq_t hc162_762) (by decide) (by decide) k) ?_
                  show OwnGo p e below (Tj718.setTop (mkF m 228 #[.val (.int p1), .val (.int p2), .val (.int p3), .val (.int p4), .val (.int p5), .val (.int (Int32.ofNat nn)), .val (.int c0), .val (.int c1), .val (.int c2), .val (.int c3), .val (.ref b658), .val (.ref am708), .val (.int k0), .val (.int k1), .val (.int k2), .val (.int k3), .val (.int (Int32.ofNat nn)), .val (.int (Int32.ofNat nn)), .unset, .unset] [])) _
                  have g0 := own_k0 hk0 hc186_765
                  have g1 := own_k0 hk1 hc178_764
                  have g2 := own_k0 hk2 hc170_763
                  have g3 := own_k0 hk3 hc162_762
                  exact tl228_719 _ _ nn nn ⟨_, _, _, Xj718, ej718, hSj718, hkj718, hZj718, hownj718, CRj718, Oj718, KPj718, Zj718, Nj718⟩ hs718_0 hs718_1 (fun q hq => by have hq4 : q < nn := (by omega); rw [own_at c0 c1 c2 c3 r0 r1 r2 r3 hn (by omega)]; rcases own_lt4 q (by omega) with rfl | rfl | rfl | rfl <;> first | omega | exact g0 (by omega) | exact g1 (by omega) | exact g2 (by omega) | exact g3 (by omega)) (fun hq => absurd hq (by omega)) (fun q hq hq2 => by rw [own_at c0 c1 c2 c3 r0 r1 r2 r3 hn (by omega)]; rcases own_lt4 q (by omega) with rfl | rfl | rfl | rfl <;> first | omega | exact g0 (by omega) | exact g1 (by omega) | exact g2 (by omega) | exact g3 (by omega)) (fun hq => absurd hq (by omega)) (by omega) (by omega)
                · refine own_back (fun t k => XS.ifNo Xj718.here hx rfl (hb hby at_186) rfl (Jvm.Free.XT.i0_eq_f hc186_765) k) ?_
                  show OwnGo p e below (Tj718.setTop (mkF m 189 #[.val (.int p1), .val (.int p2), .val (.int p3), .val (.int p4), .val (.int p5), .val (.int (Int32.ofNat nn)), .val (.int c0), .val (.int c1), .val (.int c2), .val (.int c3), .val (.ref b658), .val (.ref am708), .val (.int k0), .val (.int k1), .val (.int k2), .val (.int k3), .val (.int (Int32.ofNat nn)), .unset, .unset, .unset] [])) _
                  refine own_back (fun t k => XS.iconst Xj718.here hx rfl (hb hby at_189) k) ?_
                  show OwnGo p e below (Tj718.setTop (mkF m 190 #[.val (.int p1), .val (.int p2), .val (.int p3), .val (.int p4), .val (.int p5), .val (.int (Int32.ofNat nn)), .val (.int c0), .val (.int c1), .val (.int c2), .val (.int c3), .val (.ref b658), .val (.ref am708), .val (.int k0), .val (.int k1), .val (.int k2), .val (.int k3), .val (.int (Int32.ofNat nn)), .unset, .unset, .unset] [(.int (0 : Int32))])) _
                  refine own_back (fun t k => XS.istore Xj718.here hx rfl (hb hby at_190) rfl (l' := #[.val (.int p1), .val (.int p2), .val (.int p3), .val (.int p4), .val (.int p5), .val (.int (Int32.ofNat nn)), .val (.int c0), .val (.int c1), .val (.int c2), .val (.int c3), .val (.ref b658), .val (.ref am708), .val (.int k0), .val (.int k1), .val (.int k2), .val (.int k3), .val (.int (0 : Int32)), .unset, .unset, .unset]) rfl k) ?_
                  show OwnGo p e below (Tj718.setTop (mkF m 192 #[.val (.int p1), .val (.int p2), .val (.int p3), .val (.int p4), .val (.int p5), .val (.int (Int32.ofNat nn)), .val (.int c0), .val (.int c1), .val (.int c2), .val (.int c3), .val (.ref b658), .val (.ref am708), .val (.int k0), .val (.int k1), .val (.int k2), .val (.int k3), .val (.int (0 : Int32)), .unset, .unset, .unset] [])) _
                  refine own_back (fun t k => XS.iload Xj718.here hx rfl (hb hby at_192) rfl k) ?_
                  show OwnGo p e below (Tj718.setTop (mkF m 194 #[.val (.int p1), .val (.int p2), .val (.int p3), .val (.int p4), .val (.int p5), .val (.int (Int32.ofNat nn)), .val (.int c0), .val (.int c1), .val (.int c2), .val (.int c3), .val (.ref b658), .val (.ref am708), .val (.int k0), .val (.int k1), .val (.int k2), .val (.int k3), .val (.int (0 : Int32)), .unset, .unset, .unset] [(.int (0 : Int32))])) _
                  refine own_back (fun t k => XS.istore Xj718.here hx rfl (hb hby at_194) rfl (l' := #[.val (.int p1), .val (.int p2), .val (.int p3), .val (.int p4), .val (.int p5), .val (.int (Int32.ofNat nn)), .val (.int c0), .val (.int c1), .val (.int c2), .val (.int c3), .val (.ref b658), .val (.ref am708), .val (.int k0), .val (.int k1), .val (.int k2), .val (.int k3), .val (.int (0 : Int32)), .val (.int (0 : Int32)), .unset, .unset]) rfl k) ?_
                  show OwnGo p e below (Tj718.setTop (mkF m 196 #[.val (.int p1), .val (.int p2), .val (.int p3), .val (.int p4), .val (.int p5), .val (.int (Int32.ofNat nn)), .val (.int c0), .val (.int c1), .val (.int c2), .val (.int c3), .val (.ref b658), .val (.ref am708), .val (.int k0), .val (.int k1), .val (.int k2), .val (.int k3), .val (.int (0 : Int32)), .val (.int (0 : Int32)), .unset, .unset] [])) _
                  refine own_back (fun t k => XS.iload Xj718.here hx rfl (hb hby at_196) rfl k) ?_
                  show OwnGo p e below (Tj718.setTop (mkF m 198 #[.val (.int p1), .val (.int p2), .val (.int p3), .val (.int p4), .val (.int p5), .val (.int (Int32.ofNat nn)), .val (.int c0), .val (.int c1), .val (.int c2), .val (.int c3), .val (.ref b658), .val (.ref am708), .val (.int k0), .val (.int k1), .val (.int k2), .val (.int k3), .val (.int (0 : Int32)), .val (.int (0 : Int32)), .unset, .unset] [(.int k0)])) _
                  refine own_back (fun t k => XS.ifNo Xj718.here hx rfl (hb hby at_198) rfl (Jvm.Free.XT.i0_eq_f hc186_765) k) ?_
                  show OwnGo p e below (Tj718.setTop (mkF m 201 #[.val (.int p1), .val (.int p2), .val (.int p3), .val (.int p4), .val (.int p5), .val (.int (Int32.ofNat nn)), .val (.int c0), .val (.int c1), .val (.int c2), .val (.int c3), .val (.ref b658), .val (.ref am708), .val (.int k0), .val (.int k1), .val (.int k2), .val (.int k3), .val (.int (0 : Int32)), .val (.int (0 : Int32)), .unset, .unset] [])) _
                  refine own_back (fun t k => XS.iconst Xj718.here hx rfl (hb hby at_201) k) ?_
                  show OwnGo p e below (Tj718.setTop (mkF m 202 #[.val (.int p1), .val (.int p2), .val (.int p3), .val (.int p4), .val (.int p5), .val (.int (Int32.ofNat nn)), .val (.int c0), .val (.int c1), .val (.int c2), .val (.int c3), .val (.ref b658), .val (.ref am708), .val (.int k0), .val (.int k1), .val (.int k2), .val (.int k3), .val (.int (0 : Int32)), .val (.int (0 : Int32)), .unset, .unset] [(.int (1 : Int32))])) _
                  refine own_back (fun t k => XS.istore Xj718.here hx rfl (hb hby at_202) rfl (l' := #[.val (.int p1), .val (.int p2), .val (.int p3), .val (.int p4), .val (.int p5), .val (.int (Int32.ofNat nn)), .val (.int c0), .val (.int c1), .val (.int c2), .val (.int c3), .val (.ref b658), .val (.ref am708), .val (.int k0), .val (.int k1), .val (.int k2), .val (.int k3), .val (.int (0 : Int32)), .val (.int (1 : Int32)), .unset, .unset]) rfl k) ?_
                  show OwnGo p e below (Tj718.setTop (mkF m 204 #[.val (.int p1), .val (.int p2), .val (.int p3), .val (.int p4), .val (.int p5), .val (.int (Int32.ofNat nn)), .val (.int c0), .val (.int c1), .val (.int c2), .val (.int c3), .val (.ref b658), .val (.ref am708), .val (.int k0), .val (.int k1), .val (.int k2), .val (.int k3), .val (.int (0 : Int32)), .val (.int (1 : Int32)), .unset, .unset] [])) _
                  refine own_back (fun t k => XS.iload Xj718.here hx rfl (hb hby at_204) rfl k) ?_
                  show OwnGo p e below (Tj718.setTop (mkF m 206 #[.val (.int p1), .val (.int p2), .val (.int p3), .val (.int p4), .val (.int p5), .val (.int (Int32.ofNat nn)), .val (.int c0), .val (.int c1), .val (.int c2), .val (.int c3), .val (.ref b658), .val (.ref am708), .val (.int k0), .val (.int k1), .val (.int k2), .val (.int k3), .val (.int (0 : Int32)), .val (.int (1 : Int32)), .unset, .unset] [(.int k1)])) _
                  refine own_back (fun t k => XS.ifYes Xj718.here hx rfl (pc0 := 206) (pc' := 212) rfl (hb hby at_206) rfl (Jvm.Free.XT.i0_eq_t hc178_764) (by decide) (by decide) k) ?_
                  show OwnGo p e below (Tj718.setTop (mkF m 212 #[.val (.int p1), .val (.int p2), .val (.int p3), .val (.int p4), .val (.int p5), .val (.int (Int32.ofNat nn)), .val (.int c0), .val (.int c1), .val (.int c2), .val (.int c3), .val (.ref b658), .val (.ref am708), .val (.int k0), .val (.int k1), .val (.int k2), .val (.int k3), .val (.int (0 : Int32)), .val (.int (1 : Int32)), .unset, .unset] [])) _
                  refine own_back (fun t k => XS.iload Xj718.here hx rfl (hb hby at_212) rfl k) ?_
                  show OwnGo p e below (Tj718.setTop (mkF m 214 #[.val (.int p1), .val (.int p2), .val (.int p3), .val (.int p4), .val (.int p5), .val (.int (Int32.ofNat nn)), .val (.int c0), .val (.int c1), .val (.int c2), .val (.int c3), .val (.ref b658), .val (.ref am708), .val (.int k0), .val (.int k1), .val (.int k2), .val (.int k3), .val (.int (0 : Int32)), .val (.int (1 : Int32)), .unset, .unset] [(.int k2)])) _
                  refine own_back (fun t k => XS.ifYes Xj718.here hx rfl (pc0 := 214) (pc' := 220) rfl (hb hby at_214) rfl (Jvm.Free.XT.i0_eq_t hc170_763) (by decide) (by decide) k) ?_
                  show OwnGo p e below (Tj718.setTop (mkF m 220 #[.val (.int p1), .val (.int p2), .val (.int p3), .val (.int p4), .val (.int p5), .val (.int (Int32.ofNat nn)), .val (.int c0), .val (.int c1), .val (.int c2), .val (.int c3), .val (.ref b658), .val (.ref am708), .val (.int k0), .val (.int k1), .val (.int k2), .val (.int k3), .val (.int (0 : Int32)), .val (.int (1 : Int32)), .unset, .unset] [])) _
                  refine own_back (fun t k => XS.iload Xj718.here hx rfl (hb hby at_220) rfl k) ?_
                  show OwnGo p e below (Tj718.setTop (mkF m 222 #[.val (.int p1), .val (.int p2), .val (.int p3), .val (.int p4), .val (.int p5), .val (.int (Int32.ofNat nn)), .val (.int c0), .val (.int c1), .val (.int c2), .val (.int c3), .val (.ref b658), .val (.ref am708), .val (.int k0), .val (.int k1), .val (.int k2), .val (.int k3), .val (.int (0 : Int32)), .val (.int (1 : Int32)), .unset, .unset] [(.int k3)])) _
                  refine own_back (fun t k => XS.ifYes Xj718.here hx rfl (pc0 := 222) (pc' := 228) rfl (hb hby at_222) rfl (Jvm.Free.XT.i0_eq_t hc162_762) (by decide) (by decide) k) ?_
                  show OwnGo p e below (Tj718.setTop (mkF m 228 #[.val (.int p1), .val (.int p2), .val (.int p3), .val (.int p4), .val (.int p5), .val (.int (Int32.ofNat nn)), .val (.int c0), .val (.int c1), .val (.int c2), .val (.int c3), .val (.ref b658), .val (.ref am708), .val (.int k0), .val (.int k1), .val (.int k2), .val (.int k3), .val (.int (0 : Int32)), .val (.int (1 : Int32)), .unset, .unset] [])) _
                  have g0 := own_k1 hk0 hc186_765
                  have g1 := own_k0 hk1 hc178_764
                  have g2 := own_k0 hk2 hc170_763
                  have g3 := own_k0 hk3 hc162_762
                  have hl0 := g0.1
                  exact tl228_719 _ _ 0 1 ⟨_, _, _, Xj718, ej718, hSj718, hkj718, hZj718, hownj718, CRj718, Oj718, KPj718, Zj718, Nj718⟩ hs718_0 hs718_1 (fun q hq => by have hq4 : q < nn := (by omega); rw [own_at c0 c1 c2 c3 r0 r1 r2 r3 hn (by omega)]; rcases own_lt4 q (by omega) with rfl | rfl | rfl | rfl <;> first | omega | exact g1 (by omega) | exact g2 (by omega) | exact g3 (by omega)) (fun hq => by rw [own_at c0 c1 c2 c3 r0 r1 r2 r3 hn (by omega)]; exact g0.2) (fun q hq hq2 => by rw [own_at c0 c1 c2 c3 r0 r1 r2 r3 hn (by omega)]; rcases own_lt4 q (by omega) with rfl | rfl | rfl | rfl <;> first | omega | exact g1 (by omega) | exact g2 (by omega) | exact g3 (by omega)) (fun hq => by rw [own_at c0 c1 c2 c3 r0 r1 r2 r3 hn (by omega)]; exact g0.2) (by omega) (by omega)
              · refine own_back (fun t k => XS.ifNo Xj718.here hx rfl (hb hby at_178) rfl (Jvm.Free.XT.i0_eq_f hc178_764) k) ?_
                show OwnGo p e below (Tj718.setTop (mkF m 181 #[.val (.int p1), .val (.int p2), .val (.int p3), .val (.int p4), .val (.int p5), .val (.int (Int32.ofNat nn)), .val (.int c0), .val (.int c1), .val (.int c2), .val (.int c3), .val (.ref b658), .val (.ref am708), .val (.int k0), .val (.int k1), .val (.int k2), .val (.int k3), .val (.int (Int32.ofNat nn)), .unset, .unset, .unset] [])) _
                refine own_back (fun t k => XS.iconst Xj718.here hx rfl (hb hby at_181) k) ?_
                show OwnGo p e below (Tj718.setTop (mkF m 182 #[.val (.int p1), .val (.int p2), .val (.int p3), .val (.int p4), .val (.int p5), .val (.int (Int32.ofNat nn)), .val (.int c0), .val (.int c1), .val (.int c2), .val (.int c3), .val (.ref b658), .val (.ref am708), .val (.int k0), .val (.int k1), .val (.int k2), .val (.int k3), .val (.int (Int32.ofNat nn)), .unset, .unset, .unset] [(.int (1 : Int32))])) _
                refine own_back (fun t k => XS.istore Xj718.here hx rfl (hb hby at_182) rfl (l' := #[.val (.int p1), .val (.int p2), .val (.int p3), .val (.int p4), .val (.int p5), .val (.int (Int32.ofNat nn)), .val (.int c0), .val (.int c1), .val (.int c2), .val (.int c3), .val (.ref b658), .val (.ref am708), .val (.int k0), .val (.int k1), .val (.int k2), .val (.int k3), .val (.int (1 : Int32)), .unset, .unset, .unset]) rfl k) ?_
                show OwnGo p e below (Tj718.setTop (mkF m 184 #[.val (.int p1), .val (.int p2), .val (.int p3), .val (.int p4), .val (.int p5), .val (.int (Int32.ofNat nn)), .val (.int c0), .val (.int c1), .val (.int c2), .val (.int c3), .val (.ref b658), .val (.ref am708), .val (.int k0), .val (.int k1), .val (.int k2), .val (.int k3), .val (.int (1 : Int32)), .unset, .unset, .unset] [])) _
                refine own_back (fun t k => XS.iload Xj718.here hx rfl (hb hby at_184) rfl k) ?_
                show OwnGo p e below (Tj718.setTop (mkF m 186 #[.val (.int p1), .val (.int p2), .val (.int p3), .val (.int p4), .val (.int p5), .val (.int (Int32.ofNat nn)), .val (.int c0), .val (.int c1), .val (.int c2), .val (.int c3), .val (.ref b658), .val (.ref am708), .val (.int k0), .val (.int k1), .val (.int k2), .val (.int k3), .val (.int (1 : Int32)), .unset, .unset, .unset] [(.int k0)])) _
                by_cases hc186_766 : k0 = (0 : Int32)
                · refine own_back (fun t k => XS.ifYes Xj718.here hx rfl (pc0 := 186) (pc' := 192) rfl (hb hby at_186) rfl (Jvm.Free.XT.i0_eq_t hc186_766) (by decide) (by decide) k) ?_
                  show OwnGo p e below (Tj718.setTop (mkF m 192 #[.val (.int p1), .val (.int p2), .val (.int p3), .val (.int p4), .val (.int p5), .val (.int (Int32.ofNat nn)), .val (.int c0), .val (.int c1), .val (.int c2), .val (.int c3), .val (.ref b658), .val (.ref am708), .val (.int k0), .val (.int k1), .val (.int k2), .val (.int k3), .val (.int (1 : Int32)), .unset, .unset, .unset] [])) _
                  refine own_back (fun t k => XS.iload Xj718.here hx rfl (hb hby at_192) rfl k) ?_
                  show OwnGo p e below (Tj718.setTop (mkF m 194 #[.val (.int p1), .val (.int p2), .val (.int p3), .val (.int p4), .val (.int p5), .val (.int (Int32.ofNat nn)), .val (.int c0), .val (.int c1), .val (.int c2), .val (.int c3), .val (.ref b658), .val (.ref am708), .val (.int k0), .val (.int k1), .val (.int k2), .val (.int k3), .val (.int (1 : Int32)), .unset, .unset, .unset] [(.int (1 : Int32))])) _
                  refine own_back (fun t k => XS.istore Xj718.here hx rfl (hb hby at_194) rfl (l' := #[.val (.int p1), .val (.int p2), .val (.int p3), .val (.int p4), .val (.int p5), .val (.int (Int32.ofNat nn)), .val (.int c0), .val (.int c1), .val (.int c2), .val (.int c3), .val (.ref b658), .val (.ref am708), .val (.int k0), .val (.int k1), .val (.int k2), .val (.int k3), .val (.int (1 : Int32)), .val (.int (1 : Int32)), .unset, .unset]) rfl k) ?_
                  show OwnGo p e below (Tj718.setTop (mkF m 196 #[.val (.int p1), .val (.int p2), .val (.int p3), .val (.int p4), .val (.int p5), .val (.int (Int32.ofNat nn)), .val (.int c0), .val (.int c1), .val (.int c2), .val (.int c3), .val (.ref b658), .val (.ref am708), .val (.int k0), .val (.int k1), .val (.int k2), .val (.int k3), .val (.int (1 : Int32)), .val (.int (1 : Int32)), .unset, .unset] [])) _
                  refine own_back (fun t k => XS.iload Xj718.here hx rfl (hb hby at_196) rfl k) ?_
                  show OwnGo p e below (Tj718.setTop (mkF m 198 #[.val (.int p1), .val (.int p2), .val (.int p3), .val (.int p4), .val (.int p5), .val (.int (Int32.ofNat nn)), .val (.int c0), .val (.int c1), .val (.int c2), .val (.int c3), .val (.ref b658), .val (.ref am708), .val (.int k0), .val (.int k1), .val (.int k2), .val (.int k3), .val (.int (1 : Int32)), .val (.int (1 : Int32)), .unset, .unset] [(.int k0)])) _
                  refine own_back (fun t k => XS.ifYes Xj718.here hx rfl (pc0 := 198) (pc' := 204) rfl (hb hby at_198) rfl (Jvm.Free.XT.i0_eq_t hc186_766) (by decide) (by decide) k) ?_
                  show OwnGo p e below (Tj718.setTop (mkF m 204 #[.val (.int p1), .val (.int p2), .val (.int p3), .val (.int p4), .val (.int p5), .val (.int (Int32.ofNat nn)), .val (.int c0), .val (.int c1), .val (.int c2), .val (.int c3), .val (.ref b658), .val (.ref am708), .val (.int k0), .val (.int k1), .val (.int k2), .val (.int k3), .val (.int (1 : Int32)), .val (.int (1 : Int32)), .unset, .unset] [])) _
                  refine own_back (fun t k => XS.iload Xj718.here hx rfl (hb hby at_204) rfl k) ?_
                  show OwnGo p e below (Tj718.setTop (mkF m 206 #[.val (.int p1), .val (.int p2), .val (.int p3), .val (.int p4), .val (.int p5), .val (.int (Int32.ofNat nn)), .val (.int c0), .val (.int c1), .val (.int c2), .val (.int c3), .val (.ref b658), .val (.ref am708), .val (.int k0), .val (.int k1), .val (.int k2), .val (.int k3), .val (.int (1 : Int32)), .val (.int (1 : Int32)), .unset, .unset] [(.int k1)])) _
                  refine own_back (fun t k => XS.ifNo Xj718.here hx rfl (hb hby at_206) rfl (Jvm.Free.XT.i0_eq_f hc178_764) k) ?_
                  show OwnGo p e below (Tj718.setTop (mkF m 209 #[.val (.int p1), .val (.int p2), .val (.int p3), .val (.int p4), .val (.int p5), .val (.int (Int32.ofNat nn)), .val (.int c0), .val (.int c1), .val (.int c2), .val (.int c3), .val (.ref b658), .val (.ref am708), .val (.int k0), .val (.int k1), .val (.int k2), .val (.int k3), .val (.int (1 : Int32)), .val (.int (1 : Int32)), .unset, .unset] [])) _
                  refine own_back (fun t k => XS.iconst Xj718.here hx rfl (hb hby at_209) k) ?_
                  show OwnGo p e below (Tj718.setTop (mkF m 210 #[.val (.int p1), .val (.int p2), .val (.int p3), .val (.int p4), .val (.int p5), .val (.int (Int32.ofNat nn)), .val (.int c0), .val (.int c1), .val (.int c2), .val (.int c3), .val (.ref b658), .val (.ref am708), .val (.int k0), .val (.int k1), .val (.int k2), .val (.int k3), .val (.int (1 : Int32)), .val (.int (1 : Int32)), .unset, .unset] [(.int (2 : Int32))])) _
                  refine own_back (fun t k => XS.istore Xj718.here hx rfl (hb hby at_210) rfl (l' := #[.val (.int p1), .val (.int p2), .val (.int p3), .val (.int p4), .val (.int p5), .val (.int (Int32.ofNat nn)), .val (.int c0), .val (.int c1), .val (.int c2), .val (.int c3), .val (.ref b658), .val (.ref am708), .val (.int k0), .val (.int k1), .val (.int k2), .val (.int k3), .val (.int (1 : Int32)), .val (.int (2 : Int32)), .unset, .unset]) rfl k) ?_
                  show OwnGo p e below (Tj718.setTop (mkF m 212 #[.val (.int p1), .val (.int p2), .val (.int p3), .val (.int p4), .val (.int p5), .val (.int (Int32.ofNat nn)), .val (.int c0), .val (.int c1), .val (.int c2), .val (.int c3), .val (.ref b658), .val (.ref am708), .val (.int k0), .val (.int k1), .val (.int k2), .val (.int k3), .val (.int (1 : Int32)), .val (.int (2 : Int32)), .unset, .unset] [])) _
                  refine own_back (fun t k => XS.iload Xj718.here hx rfl (hb hby at_212) rfl k) ?_
                  show OwnGo p e below (Tj718.setTop (mkF m 214 #[.val (.int p1), .val (.int p2), .val (.int p3), .val (.int p4), .val (.int p5), .val (.int (Int32.ofNat nn)), .val (.int c0), .val (.int c1), .val (.int c2), .val (.int c3), .val (.ref b658), .val (.ref am708), .val (.int k0), .val (.int k1), .val (.int k2), .val (.int k3), .val (.int (1 : Int32)), .val (.int (2 : Int32)), .unset, .unset] [(.int k2)])) _
                  refine own_back (fun t k => XS.ifYes Xj718.here hx rfl (pc0 := 214) (pc' := 220) rfl (hb hby at_214) rfl (Jvm.Free.XT.i0_eq_t hc170_763) (by decide) (by decide) k) ?_
                  show OwnGo p e below (Tj718.setTop (mkF m 220 #[.val (.int p1), .val (.int p2), .val (.int p3), .val (.int p4), .val (.int p5), .val (.int (Int32.ofNat nn)), .val (.int c0), .val (.int c1), .val (.int c2), .val (.int c3), .val (.ref b658), .val (.ref am708), .val (.int k0), .val (.int k1), .val (.int k2), .val (.int k3), .val (.int (1 : Int32)), .val (.int (2 : Int32)), .unset, .unset] [])) _
                  refine own_back (fun t k => XS.iload Xj718.here hx rfl (hb hby at_220) rfl k) ?_
                  show OwnGo p e below (Tj718.setTop (mkF m 222 #[.val (.int p1), .val (.int p2), .val (.int p3), .val (.int p4), .val (.int p5), .val (.int (Int32.ofNat nn)), .val (.int c0), .val (.int c1), .val (.int c2), .val (.int c3), .val (.ref b658), .val (.ref am708), .val (.int k0), .val (.int k1), .val (.int k2), .val (.int k3), .val (.int (1 : Int32)), .val (.int (2 : Int32)), .unset, .unset] [(.int k3)])) _
                  refine own_back (fun t k => XS.ifYes Xj718.here hx rfl (pc0 := 222) (pc' := 228) rfl (hb hby at_222) rfl (Jvm.Free.XT.i0_eq_t hc162_762) (by decide) (by decide) k) ?_
                  show OwnGo p e below (Tj718.setTop (mkF m 228 #[.val (.int p1), .val (.int p2), .val (.int p3), .val (.int p4), .val (.int p5), .val (.int (Int32.ofNat nn)), .val (.int c0), .val (.int c1), .val (.int c2), .val (.int c3), .val (.ref b658), .val (.ref am708), .val (.int k0), .val (.int k1), .val (.int k2), .val (.int k3), .val (.int (1 : Int32)), .val (.int (2 : Int32)), .unset, .unset] [])) _
                  have g0 := own_k0 hk0 hc186_766
                  have g1 := own_k1 hk1 hc178_764
                  have g2 := own_k0 hk2 hc170_763
                  have g3 := own_k0 hk3 hc162_762
                  have hl0 := g1.1
                  exact tl228_719 _ _ 1 2 ⟨_, _, _, Xj718, ej718, hSj718, hkj718, hZj718, hownj718, CRj718, Oj718, KPj718, Zj718, Nj718⟩ hs718_0 hs718_1 (fun q hq => by have hq4 : q < nn := (by omega); rw [own_at c0 c1 c2 c3 r0 r1 r2 r3 hn (by omega)]; rcases own_lt4 q (by omega) with rfl | rfl | rfl | rfl <;> first | omega | exact g0 (by omega) | exact g2 (by omega) | exact g3 (by omega)) (fun hq => by rw [own_at c0 c1 c2 c3 r0 r1 r2 r3 hn (by omega)]; exact g1.2) (fun q hq hq2 => by rw [own_at c0 c1 c2 c3 r0 r1 r2 r3 hn (by omega)]; rcases own_lt4 q (by omega) with rfl | rfl | rfl | rfl <;> first | omega | exact g0 (by omega) | exact g2 (by omega) | exact g3 (by omega)) (fun hq => by rw [own_at c0 c1 c2 c3 r0 r1 r2 r3 hn (by omega)]; exact g1.2) (by omega) (by omega)
                · refine own_back (fun t k => XS.ifNo Xj718.here hx rfl (hb hby at_186) rfl (Jvm.Free.XT.i0_eq_f hc186_766) k) ?_
                  show OwnGo p e below (Tj718.setTop (mkF m 189 #[.val (.int p1), .val (.int p2), .val (.int p3), .val (.int p4), .val (.int p5), .val (.int (Int32.ofNat nn)), .val (.int c0), .val (.int c1), .val (.int c2), .val (.int c3), .val (.ref b658), .val (.ref am708), .val (.int k0), .val (.int k1), .val (.int k2), .val (.int k3), .val (.int (1 : Int32)), .unset, .unset, .unset] [])) _
                  refine own_back (fun t k => XS.iconst Xj718.here hx rfl (hb hby at_189) k) ?_
                  show OwnGo p e below (Tj718.setTop (mkF m 190 #[.val (.int p1), .val (.int p2), .val (.int p3), .val (.int p4), .val (.int p5), .val (.int (Int32.ofNat nn)), .val (.int c0), .val (.int c1), .val (.int c2), .val (.int c3), .val (.ref b658), .val (.ref am708), .val (.int k0), .val (.int k1), .val (.int k2), .val (.int k3), .val (.int (1 : Int32)), .unset, .unset, .unset] [(.int (0 : Int32))])) _
                  refine own_back (fun t k => XS.istore Xj718.here hx rfl (hb hby at_190) rfl (l' := #[.val (.int p1), .val (.int p2), .val (.int p3), .val (.int p4), .val (.int p5), .val (.int (Int32.ofNat nn)), .val (.int c0), .val (.int c1), .val (.int c2), .val (.int c3), .val (.ref b658), .val (.ref am708), .val (.int k0), .val (.int k1), .val (.int k2), .val (.int k3), .val (.int (0 : Int32)), .unset, .unset, .unset]) rfl k) ?_
                  show OwnGo p e below (Tj718.setTop (mkF m 192 #[.val (.int p1), .val (.int p2), .val (.int p3), .val (.int p4), .val (.int p5), .val (.int (Int32.ofNat nn)), .val (.int c0), .val (.int c1), .val (.int c2), .val (.int c3), .val (.ref b658), .val (.ref am708), .val (.int k0), .val (.int k1), .val (.int k2), .val (.int k3), .val (.int (0 : Int32)), .unset, .unset, .unset] [])) _
                  refine own_back (fun t k => XS.iload Xj718.here hx rfl (hb hby at_192) rfl k) ?_
                  show OwnGo p e below (Tj718.setTop (mkF m 194 #[.val (.int p1), .val (.int p2), .val (.int p3), .val (.int p4), .val (.int p5), .val (.int (Int32.ofNat nn)), .val (.int c0), .val (.int c1), .val (.int c2), .val (.int c3), .val (.ref b658), .val (.ref am708), .val (.int k0), .val (.int k1), .val (.int k2), .val (.int k3), .val (.int (0 : Int32)), .unset, .unset, .unset] [(.int (0 : Int32))])) _
                  refine own_back (fun t k => XS.istore Xj718.here hx rfl (hb hby at_194) rfl (l' := #[.val (.int p1), .val (.int p2), .val (.int p3), .val (.int p4), .val (.int p5), .val (.int (Int32.ofNat nn)), .val (.int c0), .val (.int c1), .val (.int c2), .val (.int c3), .val (.ref b658), .val (.ref am708), .val (.int k0), .val (.int k1), .val (.int k2), .val (.int k3), .val (.int (0 : Int32)), .val (.int (0 : Int32)), .unset, .unset]) rfl k) ?_
                  show OwnGo p e below (Tj718.setTop (mkF m 196 #[.val (.int p1), .val (.int p2), .val (.int p3), .val (.int p4), .val (.int p5), .val (.int (Int32.ofNat nn)), .val (.int c0), .val (.int c1), .val (.int c2), .val (.int c3), .val (.ref b658), .val (.ref am708), .val (.int k0), .val (.int k1), .val (.int k2), .val (.int k3), .val (.int (0 : Int32)), .val (.int (0 : Int32)), .unset, .unset] [])) _
                  refine own_back (fun t k => XS.iload Xj718.here hx rfl (hb hby at_196) rfl k) ?_
                  show OwnGo p e below (Tj718.setTop (mkF m 198 #[.val (.int p1), .val (.int p2), .val (.int p3), .val (.int p4), .val (.int p5), .val (.int (Int32.ofNat nn)), .val (.int c0), .val (.int c1), .val (.int c2), .val (.int c3), .val (.ref b658), .val (.ref am708), .val (.int k0), .val (.int k1), .val (.int k2), .val (.int k3), .val (.int (0 : Int32)), .val (.int (0 : Int32)), .unset, .unset] [(.int k0)])) _
                  refine own_back (fun t k => XS.ifNo Xj718.here hx rfl (hb hby at_198) rfl (Jvm.Free.XT.i0_eq_f hc186_766) k) ?_
                  show OwnGo p e below (Tj718.setTop (mkF m 201 #[.val (.int p1), .val (.int p2), .val (.int p3), .val (.int p4), .val (.int p5), .val (.int (Int32.ofNat nn)), .val (.int c0), .val (.int c1), .val (.int c2), .val (.int c3), .val (.ref b658), .val (.ref am708), .val (.int k0), .val (.int k1), .val (.int k2), .val (.int k3), .val (.int (0 : Int32)), .val (.int (0 : Int32)), .unset, .unset] [])) _
                  refine own_back (fun t k => XS.iconst Xj718.here hx rfl (hb hby at_201) k) ?_
                  show OwnGo p e below (Tj718.setTop (mkF m 202 #[.val (.int p1), .val (.int p2), .val (.int p3), .val (.int p4), .val (.int p5), .val (.int (Int32.ofNat nn)), .val (.int c0), .val (.int c1), .val (.int c2), .val (.int c3), .val (.ref b658), .val (.ref am708), .val (.int k0), .val (.int k1), .val (.int k2), .val (.int k3), .val (.int (0 : Int32)), .val (.int (0 : Int32)), .unset, .unset] [(.int (1 : Int32))])) _
                  refine own_back (fun t k => XS.istore Xj718.here hx rfl (hb hby at_202) rfl (l' := #[.val (.int p1), .val (.int p2), .val (.int p3), .val (.int p4), .val (.int p5), .val (.int (Int32.ofNat nn)), .val (.int c0), .val (.int c1), .val (.int c2), .val (.int c3), .val (.ref b658), .val (.ref am708), .val (.int k0), .val (.int k1), .val (.int k2), .val (.int k3), .val (.int (0 : Int32)), .val (.int (1 : Int32)), .unset, .unset]) rfl k) ?_
                  show OwnGo p e below (Tj718.setTop (mkF m 204 #[.val (.int p1), .val (.int p2), .val (.int p3), .val (.int p4), .val (.int p5), .val (.int (Int32.ofNat nn)), .val (.int c0), .val (.int c1), .val (.int c2), .val (.int c3), .val (.ref b658), .val (.ref am708), .val (.int k0), .val (.int k1), .val (.int k2), .val (.int k3), .val (.int (0 : Int32)), .val (.int (1 : Int32)), .unset, .unset] [])) _
                  refine own_back (fun t k => XS.iload Xj718.here hx rfl (hb hby at_204) rfl k) ?_
                  show OwnGo p e below (Tj718.setTop (mkF m 206 #[.val (.int p1), .val (.int p2), .val (.int p3), .val (.int p4), .val (.int p5), .val (.int (Int32.ofNat nn)), .val (.int c0), .val (.int c1), .val (.int c2), .val (.int c3), .val (.ref b658), .val (.ref am708), .val (.int k0), .val (.int k1), .val (.int k2), .val (.int k3), .val (.int (0 : Int32)), .val (.int (1 : Int32)), .unset, .unset] [(.int k1)])) _
                  refine own_back (fun t k => XS.ifNo Xj718.here hx rfl (hb hby at_206) rfl (Jvm.Free.XT.i0_eq_f hc178_764) k) ?_
                  show OwnGo p e below (Tj718.setTop (mkF m 209 #[.val (.int p1), .val (.int p2), .val (.int p3), .val (.int p4), .val (.int p5), .val (.int (Int32.ofNat nn)), .val (.int c0), .val (.int c1), .val (.int c2), .val (.int c3), .val (.ref b658), .val (.ref am708), .val (.int k0), .val (.int k1), .val (.int k2), .val (.int k3), .val (.int (0 : Int32)), .val (.int (1 : Int32)), .unset, .unset] [])) _
                  refine own_back (fun t k => XS.iconst Xj718.here hx rfl (hb hby at_209) k) ?_
                  show OwnGo p e below (Tj718.setTop (mkF m 210 #[.val (.int p1), .val (.int p2), .val (.int p3), .val (.int p4), .val (.int p5), .val (.int (Int32.ofNat nn)), .val (.int c0), .val (.int c1), .val (.int c2), .val (.int c3), .val (.ref b658), .val (.ref am708), .val (.int k0), .val (.int k1), .val (.int k2), .val (.int k3), .val (.int (0 : Int32)), .val (.int (1 : Int32)), .unset, .unset] [(.int (2 : Int32))])) _
                  refine own_back (fun t k => XS.istore Xj718.here hx rfl (hb hby at_210) rfl (l' := #[.val (.int p1), .val (.int p2), .val (.int p3), .val (.int p4), .val (.int p5), .val (.int (Int32.ofNat nn)), .val (.int c0), .val (.int c1), .val (.int c2), .val (.int c3), .val (.ref b658), .val (.ref am708), .val (.int k0), .val (.int k1), .val (.int k2), .val (.int k3), .val (.int (0 : Int32)), .val (.int (2 : Int32)), .unset, .unset]) rfl k) ?_
                  show OwnGo p e below (Tj718.setTop (mkF m 212 #[.val (.int p1), .val (.int p2), .val (.int p3), .val (.int p4), .val (.int p5), .val (.int (Int32.ofNat nn)), .val (.int c0), .val (.int c1), .val (.int c2), .val (.int c3), .val (.ref b658), .val (.ref am708), .val (.int k0), .val (.int k1), .val (.int k2), .val (.int k3), .val (.int (0 : Int32)), .val (.int (2 : Int32)), .unset, .unset] [])) _
                  refine own_back (fun t k => XS.iload Xj718.here hx rfl (hb hby at_212) rfl k) ?_
                  show OwnGo p e below (Tj718.setTop (mkF m 214 #[.val (.int p1), .val (.int p2), .val (.int p3), .val (.int p4), .val (.int p5), .val (.int (Int32.ofNat nn)), .val (.int c0), .val (.int c1), .val (.int c2), .val (.int c3), .val (.ref b658), .val (.ref am708), .val (.int k0), .val (.int k1), .val (.int k2), .val (.int k3), .val (.int (0 : Int32)), .val (.int (2 : Int32)), .unset, .unset] [(.int k2)])) _
                  refine own_back (fun t k => XS.ifYes Xj718.here hx rfl (pc0 := 214) (pc' := 220) rfl (hb hby at_214) rfl (Jvm.Free.XT.i0_eq_t hc170_763) (by decide) (by decide) k) ?_
                  show OwnGo p e below (Tj718.setTop (mkF m 220 #[.val (.int p1), .val (.int p2), .val (.int p3), .val (.int p4), .val (.int p5), .val (.int (Int32.ofNat nn)), .val (.int c0), .val (.int c1), .val (.int c2), .val (.int c3), .val (.ref b658), .val (.ref am708), .val (.int k0), .val (.int k1), .val (.int k2), .val (.int k3), .val (.int (0 : Int32)), .val (.int (2 : Int32)), .unset, .unset] [])) _
                  refine own_back (fun t k => XS.iload Xj718.here hx rfl (hb hby at_220) rfl k) ?_
                  show OwnGo p e below (Tj718.setTop (mkF m 222 #[.val (.int p1), .val (.int p2), .val (.int p3), .val (.int p4), .val (.int p5), .val (.int (Int32.ofNat nn)), .val (.int c0), .val (.int c1), .val (.int c2), .val (.int c3), .val (.ref b658), .val (.ref am708), .val (.int k0), .val (.int k1), .val (.int k2), .val (.int k3), .val (.int (0 : Int32)), .val (.int (2 : Int32)), .unset, .unset] [(.int k3)])) _
                  refine own_back (fun t k => XS.ifYes Xj718.here hx rfl (pc0 := 222) (pc' := 228) rfl (hb hby at_222) rfl (Jvm.Free.XT.i0_eq_t hc162_762) (by decide) (by decide) k) ?_
                  show OwnGo p e below (Tj718.setTop (mkF m 228 #[.val (.int p1), .val (.int p2), .val (.int p3), .val (.int p4), .val (.int p5), .val (.int (Int32.ofNat nn)), .val (.int c0), .val (.int c1), .val (.int c2), .val (.int c3), .val (.ref b658), .val (.ref am708), .val (.int k0), .val (.int k1), .val (.int k2), .val (.int k3), .val (.int (0 : Int32)), .val (.int (2 : Int32)), .unset, .unset] [])) _
                  have g0 := own_k1 hk0 hc186_766
                  have g1 := own_k1 hk1 hc178_764
                  have g2 := own_k0 hk2 hc170_763
                  have g3 := own_k0 hk3 hc162_762
                  have hl0 := g1.1
                  exact tl228_719 _ _ 0 2 ⟨_, _, _, Xj718, ej718, hSj718, hkj718, hZj718, hownj718, CRj718, Oj718, KPj718, Zj718, Nj718⟩ hs718_0 hs718_1 (fun q hq => by have hq4 : q < nn := (by omega); rw [own_at c0 c1 c2 c3 r0 r1 r2 r3 hn (by omega)]; rcases own_lt4 q (by omega) with rfl | rfl | rfl | rfl <;> first | omega | exact g2 (by omega) | exact g3 (by omega)) (fun hq => by rw [own_at c0 c1 c2 c3 r0 r1 r2 r3 hn (by omega)]; exact g0.2) (fun q hq hq2 => by rw [own_at c0 c1 c2 c3 r0 r1 r2 r3 hn (by omega)]; rcases own_lt4 q (by omega) with rfl | rfl | rfl | rfl <;> first | omega | exact g2 (by omega) | exact g3 (by omega)) (fun hq => by rw [own_at c0 c1 c2 c3 r0 r1 r2 r3 hn (by omega)]; exact g1.2) (by omega) (by omega)
            · refine own_back (fun t k => XS.ifNo Xj718.here hx rfl (hb hby at_170) rfl (Jvm.Free.XT.i0_eq_f hc170_763) k) ?_
              show OwnGo p e below (Tj718.setTop (mkF m 173 #[.val (.int p1), .val (.int p2), .val (.int p3), .val (.int p4), .val (.int p5), .val (.int (Int32.ofNat nn)), .val (.int c0), .val (.int c1), .val (.int c2), .val (.int c3), .val (.ref b658), .val (.ref am708), .val (.int k0), .val (.int k1), .val (.int k2), .val (.int k3), .val (.int (Int32.ofNat nn)), .unset, .unset, .unset] [])) _
              refine own_back (fun t k => XS.iconst Xj718.here hx rfl (hb hby at_173) k) ?_
              show OwnGo p e below (Tj718.setTop (mkF m 174 #[.val (.int p1), .val (.int p2), .val (.int p3), .val (.int p4), .val (.int p5), .val (.int (Int32.ofNat nn)), .val (.int c0), .val (.int c1), .val (.int c2), .val (.int c3), .val (.ref b658), .val (.ref am708), .val (.int k0), .val (.int k1), .val (.int k2), .val (.int k3), .val (.int (Int32.ofNat nn)), .unset, .unset, .unset] [(.int (2 : Int32))])) _
              refine own_back (fun t k => XS.istore Xj718.here hx rfl (hb hby at_174) rfl (l' := #[.val (.int p1), .val (.int p2), .val (.int p3), .val (.int p4), .val (.int p5), .val (.int (Int32.ofNat nn)), .val (.int c0), .val (.int c1), .val (.int c2), .val (.int c3), .val (.ref b658), .val (.ref am708), .val (.int k0), .val (.int k1), .val (.int k2), .val (.int k3), .val (.int (2 : Int32)), .unset, .unset, .unset]) rfl k) ?_
              show OwnGo p e below (Tj718.setTop (mkF m 176 #[.val (.int p1), .val (.int p2), .val (.int p3), .val (.int p4), .val (.int p5), .val (.int (Int32.ofNat nn)), .val (.int c0), .val (.int c1), .val (.int c2), .val (.int c3), .val (.ref b658), .val (.ref am708), .val (.int k0), .val (.int k1), .val (.int k2), .val (.int k3), .val (.int (2 : Int32)), .unset, .unset, .unset] [])) _
              refine own_back (fun t k => XS.iload Xj718.here hx rfl (hb hby at_176) rfl k) ?_
              show OwnGo p e below (Tj718.setTop (mkF m 178 #[.val (.int p1), .val (.int p2), .val (.int p3), .val (.int p4), .val (.int p5), .val (.int (Int32.ofNat nn)), .val (.int c0), .val (.int c1), .val (.int c2), .val (.int c3), .val (.ref b658), .val (.ref am708), .val (.int k0), .val (.int k1), .val (.int k2), .val (.int k3), .val (.int (2 : Int32)), .unset, .unset, .unset] [(.int k1)])) _
              by_cases hc178_767 : k1 = (0 : Int32)
              · refine own_back (fun t k => XS.ifYes Xj718.here hx rfl (pc0 := 178) (pc' := 184) rfl (hb hby at_178) rfl (Jvm.Free.XT.i0_eq_t hc178_767) (by decide) (by decide) k) ?_
                show OwnGo p e below (Tj718.setTop (mkF m 184 #[.val (.int p1), .val (.int p2), .val (.int p3), .val (.int p4), .val (.int p5), .val (.int (Int32.ofNat nn)), .val (.int c0), .val (.int c1), .val (.int c2), .val (.int c3), .val (.ref b658), .val (.ref am708), .val (.int k0), .val (.int k1), .val (.int k2), .val (.int k3), .val (.int (2 : Int32)), .unset, .unset, .unset] [])) _
                refine own_back (fun t k => XS.iload Xj718.here hx rfl (hb hby at_184) rfl k) ?_
                show OwnGo p e below (Tj718.setTop (mkF m 186 #[.val (.int p1), .val (.int p2), .val (.int p3), .val (.int p4), .val (.int p5), .val (.int (Int32.ofNat nn)), .val (.int c0), .val (.int c1), .val (.int c2), .val (.int c3), .val (.ref b658), .val (.ref am708), .val (.int k0), .val (.int k1), .val (.int k2), .val (.int k3), .val (.int (2 : Int32)), .unset, .unset, .unset] [(.int k0)])) _
                by_cases hc186_768 : k0 = (0 : Int32)
                · refine own_back (fun t k => XS.ifYes Xj718.here hx rfl (pc0 := 186) (pc' := 192) rfl (hb hby at_186) rfl (Jvm.Free.XT.i0_eq_t hc186_768) (by decide) (by decide) k) ?_
                  show OwnGo p e below (Tj718.setTop (mkF m 192 #[.val (.int p1), .val (.int p2), .val (.int p3), .val (.int p4), .val (.int p5), .val (.int (Int32.ofNat nn)), .val (.int c0), .val (.int c1), .val (.int c2), .val (.int c3), .val (.ref b658), .val (.ref am708), .val (.int k0), .val (.int k1), .val (.int k2), .val (.int k3), .val (.int (2 : Int32)), .unset, .unset, .unset] [])) _
                  refine own_back (fun t k => XS.iload Xj718.here hx rfl (hb hby at_192) rfl k) ?_
                  show OwnGo p e below (Tj718.setTop (mkF m 194 #[.val (.int p1), .val (.int p2), .val (.int p3), .val (.int p4), .val (.int p5), .val (.int (Int32.ofNat nn)), .val (.int c0), .val (.int c1), .val (.int c2), .val (.int c3), .val (.ref b658), .val (.ref am708), .val (.int k0), .val (.int k1), .val (.int k2), .val (.int k3), .val (.int (2 : Int32)), .unset, .unset, .unset] [(.int (2 : Int32))])) _
                  refine own_back (fun t k => XS.istore Xj718.here hx rfl (hb hby at_194) rfl (l' := #[.val (.int p1), .val (.int p2), .val (.int p3), .val (.int p4), .val (.int p5), .val (.int (Int32.ofNat nn)), .val (.int c0), .val (.int c1), .val (.int c2), .val (.int c3), .val (.ref b658), .val (.ref am708), .val (.int k0), .val (.int k1), .val (.int k2), .val (.int k3), .val (.int (2 : Int32)), .val (.int (2 : Int32)), .unset, .unset]) rfl k) ?_
                  show OwnGo p e below (Tj718.setTop (mkF m 196 #[.val (.int p1), .val (.int p2), .val (.int p3), .val (.int p4), .val (.int p5), .val (.int (Int32.ofNat nn)), .val (.int c0), .val (.int c1), .val (.int c2), .val (.int c3), .val (.ref b658), .val (.ref am708), .val (.int k0), .val (.int k1), .val (.int k2), .val (.int k3), .val (.int (2 : Int32)), .val (.int (2 : Int32)), .unset, .unset] [])) _
                  refine own_back (fun t k => XS.iload Xj718.here hx rfl (hb hby at_196) rfl k) ?_
                  show OwnGo p e below (Tj718.setTop (mkF m 198 #[.val (.int p1), .val (.int p2), .val (.int p3), .val (.int p4), .val (.int p5), .val (.int (Int32.ofNat nn)), .val (.int c0), .val (.int c1), .val (.int c2), .val (.int c3), .val (.ref b658), .val (.ref am708), .val (.int k0), .val (.int k1), .val (.int k2), .val (.int k3), .val (.int (2 : Int32)), .val (.int (2 : Int32)), .unset, .unset] [(.int k0)])) _
                  refine own_back (fun t k => XS.ifYes Xj718.here hx rfl (pc0 := 198) (pc' := 204) rfl (hb hby at_198) rfl (Jvm.Free.XT.i0_eq_t hc186_768) (by decide) (by decide) k) ?_
                  show OwnGo p e below (Tj718.setTop (mkF m 204 #[.val (.int p1), .val (.int p2), .val (.int p3), .val (.int p4), .val (.int p5), .val (.int (Int32.ofNat nn)), .val (.int c0), .val (.int c1), .val (.int c2), .val (.int c3), .val (.ref b658), .val (.ref am708), .val (.int k0), .val (.int k1), .val (.int k2), .val (.int k3), .val (.int (2 : Int32)), .val (.int (2 : Int32)), .unset, .unset] [])) _
                  refine own_back (fun t k => XS.iload Xj718.here hx rfl (hb hby at_204) rfl k) ?_
                  show OwnGo p e below (Tj718.setTop (mkF m 206 #[.val (.int p1), .val (.int p2), .val (.int p3), .val (.int p4), .val (.int p5), .val (.int (Int32.ofNat nn)), .val (.int c0), .val (.int c1), .val (.int c2), .val (.int c3), .val (.ref b658), .val (.ref am708), .val (.int k0), .val (.int k1), .val (.int k2), .val (.int k3), .val (.int (2 : Int32)), .val (.int (2 : Int32)), .unset, .unset] [(.int k1)])) _
                  refine own_back (fun t k => XS.ifYes Xj718.here hx rfl (pc0 := 206) (pc' := 212) rfl (hb hby at_206) rfl (Jvm.Free.XT.i0_eq_t hc178_767) (by decide) (by decide) k) ?_
                  show OwnGo p e below (Tj718.setTop (mkF m 212 #[.val (.int p1), .val (.int p2), .val (.int p3), .val (.int p4), .val (.int p5), .val (.int (Int32.ofNat nn)), .val (.int c0), .val (.int c1), .val (.int c2), .val (.int c3), .val (.ref b658), .val (.ref am708), .val (.int k0), .val (.int k1), .val (.int k2), .val (.int k3), .val (.int (2 : Int32)), .val (.int (2 : Int32)), .unset, .unset] [])) _
                  refine own_back (fun t k => XS.iload Xj718.here hx rfl (hb hby at_212) rfl k) ?_
                  show OwnGo p e below (Tj718.setTop (mkF m 214 #[.val (.int p1), .val (.int p2), .val (.int p3), .val (.int p4), .val (.int p5), .val (.int (Int32.ofNat nn)), .val (.int c0), .val (.int c1), .val (.int c2), .val (.int c3), .val (.ref b658), .val (.ref am708), .val (.int k0), .val (.int k1), .val (.int k2), .val (.int k3), .val (.int (2 : Int32)), .val (.int (2 : Int32)), .unset, .unset] [(.int k2)])) _
                  refine own_back (fun t k => XS.ifNo Xj718.here hx rfl (hb hby at_214) rfl (Jvm.Free.XT.i0_eq_f hc170_763) k) ?_
                  show OwnGo p e below (Tj718.setTop (mkF m 217 #[.val (.int p1), .val (.int p2), .val (.int p3), .val (.int p4), .val (.int p5), .val (.int (Int32.ofNat nn)), .val (.int c0), .val (.int c1), .val (.int c2), .val (.int c3), .val (.ref b658), .val (.ref am708), .val (.int k0), .val (.int k1), .val (.int k2), .val (.int k3), .val (.int (2 : Int32)), .val (.int (2 : Int32)), .unset, .unset] [])) _
                  refine own_back (fun t k => XS.iconst Xj718.here hx rfl (hb hby at_217) k) ?_
                  show OwnGo p e below (Tj718.setTop (mkF m 218 #[.val (.int p1), .val (.int p2), .val (.int p3), .val (.int p4), .val (.int p5), .val (.int (Int32.ofNat nn)), .val (.int c0), .val (.int c1), .val (.int c2), .val (.int c3), .val (.ref b658), .val (.ref am708), .val (.int k0), .val (.int k1), .val (.int k2), .val (.int k3), .val (.int (2 : Int32)), .val (.int (2 : Int32)), .unset, .unset] [(.int (3 : Int32))])) _
                  refine own_back (fun t k => XS.istore Xj718.here hx rfl (hb hby at_218) rfl (l' := #[.val (.int p1), .val (.int p2), .val (.int p3), .val (.int p4), .val (.int p5), .val (.int (Int32.ofNat nn)), .val (.int c0), .val (.int c1), .val (.int c2), .val (.int c3), .val (.ref b658), .val (.ref am708), .val (.int k0), .val (.int k1), .val (.int k2), .val (.int k3), .val (.int (2 : Int32)), .val (.int (3 : Int32)), .unset, .unset]) rfl k) ?_
                  show OwnGo p e below (Tj718.setTop (mkF m 220 #[.val (.int p1), .val (.int p2), .val (.int p3), .val (.int p4), .val (.int p5), .val (.int (Int32.ofNat nn)), .val (.int c0), .val (.int c1), .val (.int c2), .val (.int c3), .val (.ref b658), .val (.ref am708), .val (.int k0), .val (.int k1), .val (.int k2), .val (.int k3), .val (.int (2 : Int32)), .val (.int (3 : Int32)), .unset, .unset] [])) _
                  refine own_back (fun t k => XS.iload Xj718.here hx rfl (hb hby at_220) rfl k) ?_
                  show OwnGo p e below (Tj718.setTop (mkF m 222 #[.val (.int p1), .val (.int p2), .val (.int p3), .val (.int p4), .val (.int p5), .val (.int (Int32.ofNat nn)), .val (.int c0), .val (.int c1), .val (.int c2), .val (.int c3), .val (.ref b658), .val (.ref am708), .val (.int k0), .val (.int k1), .val (.int k2), .val (.int k3), .val (.int (2 : Int32)), .val (.int (3 : Int32)), .unset, .unset] [(.int k3)])) _
                  refine own_back (fun t k => XS.ifYes Xj718.here hx rfl (pc0 := 222) (pc' := 228) rfl (hb hby at_222) rfl (Jvm.Free.XT.i0_eq_t hc162_762) (by decide) (by decide) k) ?_
                  show OwnGo p e below (Tj718.setTop (mkF m 228 #[.val (.int p1), .val (.int p2), .val (.int p3), .val (.int p4), .val (.int p5), .val (.int (Int32.ofNat nn)), .val (.int c0), .val (.int c1), .val (.int c2), .val (.int c3), .val (.ref b658), .val (.ref am708), .val (.int k0), .val (.int k1), .val (.int k2), .val (.int k3), .val (.int (2 : Int32)), .val (.int (3 : Int32)), .unset, .unset] [])) _
                  have g0 := own_k0 hk0 hc186_768
                  have g1 := own_k0 hk1 hc178_767
                  have g2 := own_k1 hk2 hc170_763
                  have g3 := own_k0 hk3 hc162_762
                  have hl0 := g2.1
                  exact tl228_719 _ _ 2 3 ⟨_, _, _, Xj718, ej718, hSj718, hkj718, hZj718, hownj718, CRj718, Oj718, KPj718, Zj718, Nj718⟩ hs718_0 hs718_1 (fun q hq => by have hq4 : q < nn := (by omega); rw [own_at c0 c1 c2 c3 r0 r1 r2 r3 hn (by omega)]; rcases own_lt4 q (by omega) with rfl | rfl | rfl | rfl <;> first | omega | exact g0 (by omega) | exact g1 (by omega) | exact g3 (by omega)) (fun hq => by rw [own_at c0 c1 c2 c3 r0 r1 r2 r3 hn (by omega)]; exact g2.2) (fun q hq hq2 => by rw [own_at c0 c1 c2 c3 r0 r1 r2 r3 hn (by omega)]; rcases own_lt4 q (by omega) with rfl | rfl | rfl | rfl <;> first | omega | exact g0 (by omega) | exact g1 (by omega) | exact g3 (by omega)) (fun hq => by rw [own_at c0 c1 c2 c3 r0 r1 r2 r3 hn (by omega)]; exact g2.2) (by omega) (by omega)
                · refine own_back (fun t k => XS.ifNo Xj718.here hx rfl (hb hby at_186) rfl (Jvm.Free.XT.i0_eq_f hc186_768) k) ?_
                  show OwnGo p e below (Tj718.setTop (mkF m 189 #[.val (.int p1), .val (.int p2), .val (.int p3), .val (.int p4), .val (.int p5), .val (.int (Int32.ofNat nn)), .val (.int c0), .val (.int c1), .val (.int c2), .val (.int c3), .val (.ref b658), .val (.ref am708), .val (.int k0), .val (.int k1), .val (.int k2), .val (.int k3), .val (.int (2 : Int32)), .unset, .unset, .unset] [])) _
                  refine own_back (fun t k => XS.iconst Xj718.here hx rfl (hb hby at_189) k) ?_
                  show OwnGo p e below (Tj718.setTop (mkF m 190 #[.val (.int p1), .val (.int p2), .val (.int p3), .val (.int p4), .val (.int p5), .val (.int (Int32.ofNat nn)), .val (.int c0), .val (.int c1), .val (.int c2), .val (.int c3), .val (.ref b658), .val (.ref am708), .val (.int k0), .val (.int k1), .val (.int k2), .val (.int k3), .val (.int (2 : Int32)), .unset, .unset, .unset] [(.int (0 : Int32))])) _
                  refine own_back (fun t k => XS.istore Xj718.here hx rfl (hb hby at_190) rfl (l' := #[.val (.int p1), .val (.int p2), .val (.int p3), .val (.int p4), .val (.int p5), .val (.int (Int32.ofNat nn)), .val (.int c0), .val (.int c1), .val (.int c2), .val (.int c3), .val (.ref b658), .val (.ref am708), .val (.int k0), .val (.int k1), .val (.int k2), .val (.int k3), .val (.int (0 : Int32)), .unset, .unset, .unset]) rfl k) ?_
                  show OwnGo p e below (Tj718.setTop (mkF m 192 #[.val (.int p1), .val (.int p2), .val (.int p3), .val (.int p4), .val (.int p5), .val (.int (Int32.ofNat nn)), .val (.int c0), .val (.int c1), .val (.int c2), .val (.int c3), .val (.ref b658), .val (.ref am708), .val (.int k0), .val (.int k1), .val (.int k2), .val (.int k3), .val (.int (0 : Int32)), .unset, .unset, .unset] [])) _
                  refine own_back (fun t k => XS.iload Xj718.here hx rfl (hb hby at_192) rfl k) ?_
                  show OwnGo p e below (Tj718.setTop (mkF m 194 #[.val (.int p1), .val (.int p2), .val (.int p3), .val (.int p4), .val (.int p5), .val (.int (Int32.ofNat nn)), .val (.int c0), .val (.int c1), .val (.int c2), .val (.int c3), .val (.ref b658), .val (.ref am708), .val (.int k0), .val (.int k1), .val (.int k2), .val (.int k3), .val (.int (0 : Int32)), .unset, .unset, .unset] [(.int (0 : Int32))])) _
                  refine own_back (fun t k => XS.istore Xj718.here hx rfl (hb hby at_194) rfl (l' := #[.val (.int p1), .val (.int p2), .val (.int p3), .val (.int p4), .val (.int p5), .val (.int (Int32.ofNat nn)), .val (.int c0), .val (.int c1), .val (.int c2), .val (.int c3), .val (.ref b658), .val (.ref am708), .val (.int k0), .val (.int k1), .val (.int k2), .val (.int k3), .val (.int (0 : Int32)), .val (.int (0 : Int32)), .unset, .unset]) rfl k) ?_
                  show OwnGo p e below (Tj718.setTop (mkF m 196 #[.val (.int p1), .val (.int p2), .val (.int p3), .val (.int p4), .val (.int p5), .val (.int (Int32.ofNat nn)), .val (.int c0), .val (.int c1), .val (.int c2), .val (.int c3), .val (.ref b658), .val (.ref am708), .val (.int k0), .val (.int k1), .val (.int k2), .val (.int k3), .val (.int (0 : Int32)), .val (.int (0 : Int32)), .unset, .unset] [])) _
                  refine own_back (fun t k => XS.iload Xj718.here hx rfl (hb hby at_196) rfl k) ?_
                  show OwnGo p e below (Tj718.setTop (mkF m 198 #[.val (.int p1), .val (.int p2), .val (.int p3), .val (.int p4), .val (.int p5), .val (.int (Int32.ofNat nn)), .val (.int c0), .val (.int c1), .val (.int c2), .val (.int c3), .val (.ref b658), .val (.ref am708), .val (.int k0), .val (.int k1), .val (.int k2), .val (.int k3), .val (.int (0 : Int32)), .val (.int (0 : Int32)), .unset, .unset] [(.int k0)])) _
                  refine own_back (fun t k => XS.ifNo Xj718.here hx rfl (hb hby at_198) rfl (Jvm.Free.XT.i0_eq_f hc186_768) k) ?_
                  show OwnGo p e below (Tj718.setTop (mkF m 201 #[.val (.int p1), .val (.int p2), .val (.int p3), .val (.int p4), .val (.int p5), .val (.int (Int32.ofNat nn)), .val (.int c0), .val (.int c1), .val (.int c2), .val (.int c3), .val (.ref b658), .val (.ref am708), .val (.int k0), .val (.int k1), .val (.int k2), .val (.int k3), .val (.int (0 : Int32)), .val (.int (0 : Int32)), .unset, .unset] [])) _
                  refine own_back (fun t k => XS.iconst Xj718.here hx rfl (hb hby at_201) k) ?_
                  show OwnGo p e below (Tj718.setTop (mkF m 202 #[.val (.int p1), .val (.int p2), .val (.int p3), .val (.int p4), .val (.int p5), .val (.int (Int32.ofNat nn)), .val (.int c0), .val (.int c1), .val (.int c2), .val (.int c3), .val (.ref b658), .val (.ref am708), .val (.int k0), .val (.int k1), .val (.int k2), .val (.int k3), .val (.int (0 : Int32)), .val (.int (0 : Int32)), .unset, .unset] [(.int (1 : Int32))])) _
                  refine own_back (fun t k => XS.istore Xj718.here hx rfl (hb hby at_202) rfl (l' := #[.val (.int p1), .val (.int p2), .val (.int p3), .val (.int p4), .val (.int p5), .val (.int (Int32.ofNat nn)), .val (.int c0), .val (.int c1), .val (.int c2), .val (.int c3), .val (.ref b658), .val (.ref am708), .val (.int k0), .val (.int k1), .val (.int k2), .val (.int k3), .val (.int (0 : Int32)), .val (.int (1 : Int32)), .unset, .unset]) rfl k) ?_
                  show OwnGo p e below (Tj718.setTop (mkF m 204 #[.val (.int p1), .val (.int p2), .val (.int p3), .val (.int p4), .val (.int p5), .val (.int (Int32.ofNat nn)), .val (.int c0), .val (.int c1), .val (.int c2), .val (.int c3), .val (.ref b658), .val (.ref am708), .val (.int k0), .val (.int k1), .val (.int k2), .val (.int k3), .val (.int (0 : Int32)), .val (.int (1 : Int32)), .unset, .unset] [])) _
                  refine own_back (fun t k => XS.iload Xj718.here hx rfl (hb hby at_204) rfl k) ?_
                  show OwnGo p e below (Tj718.setTop (mkF m 206 #[.val (.int p1), .val (.int p2), .val (.int p3), .val (.int p4), .val (.int p5), .val (.int (Int32.ofNat nn)), .val (.int c0), .val (.int c1), .val (.int c2), .val (.int c3), .val (.ref b658), .val (.ref am708), .val (.int k0), .val (.int k1), .val (.int k2), .val (.int k3), .val (.int (0 : Int32)), .val (.int (1 : Int32)), .unset, .unset] [(.int k1)])) _
                  refine own_back (fun t k => XS.ifYes Xj718.here hx rfl (pc0 := 206) (pc' := 212) rfl (hb hby at_206) rfl (Jvm.Free.XT.i0_eq_t hc178_767) (by decide) (by decide) k) ?_
                  show OwnGo p e below (Tj718.setTop (mkF m 212 #[.val (.int p1), .val (.int p2), .val (.int p3), .val (.int p4), .val (.int p5), .val (.int (Int32.ofNat nn)), .val (.int c0), .val (.int c1), .val (.int c2), .val (.int c3), .val (.ref b658), .val (.ref am708), .val (.int k0), .val (.int k1), .val (.int k2), .val (.int k3), .val (.int (0 : Int32)), .val (.int (1 : Int32)), .unset, .unset] [])) _
                  refine own_back (fun t k => XS.iload Xj718.here hx rfl (hb hby at_212) rfl k) ?_
                  show OwnGo p e below (Tj718.setTop (mkF m 214 #[.val (.int p1), .val (.int p2), .val (.int p3), .val (.int p4), .val (.int p5), .val (.int (Int32.ofNat nn)), .val (.int c0), .val (.int c1), .val (.int c2), .val (.int c3), .val (.ref b658), .val (.ref am708), .val (.int k0), .val (.int k1), .val (.int k2), .val (.int k3), .val (.int (0 : Int32)), .val (.int (1 : Int32)), .unset, .unset] [(.int k2)])) _
                  refine own_back (fun t k => XS.ifNo Xj718.here hx rfl (hb hby at_214) rfl (Jvm.Free.XT.i0_eq_f hc170_763) k) ?_
                  show OwnGo p e below (Tj718.setTop (mkF m 217 #[.val (.int p1), .val (.int p2), .val (.int p3), .val (.int p4), .val (.int p5), .val (.int (Int32.ofNat nn)), .val (.int c0), .val (.int c1), .val (.int c2), .val (.int c3), .val (.ref b658), .val (.ref am708), .val (.int k0), .val (.int k1), .val (.int k2), .val (.int k3), .val (.int (0 : Int32)), .val (.int (1 : Int32)), .unset, .unset] [])) _
                  refine own_back (fun t k => XS.iconst Xj718.here hx rfl (hb hby at_217) k) ?_
                  show OwnGo p e below (Tj718.setTop (mkF m 218 #[.val (.int p1), .val (.int p2), .val (.int p3), .val (.int p4), .val (.int p5), .val (.int (Int32.ofNat nn)), .val (.int c0), .val (.int c1), .val (.int c2), .val (.int c3), .val (.ref b658), .val (.ref am708), .val (.int k0), .val (.int k1), .val (.int k2), .val (.int k3), .val (.int (0 : Int32)), .val (.int (1 : Int32)), .unset, .unset] [(.int (3 : Int32))])) _
                  refine own_back (fun t k => XS.istore Xj718.here hx rfl (hb hby at_218) rfl (l' := #[.val (.int p1), .val (.int p2), .val (.int p3), .val (.int p4), .val (.int p5), .val (.int (Int32.ofNat nn)), .val (.int c0), .val (.int c1), .val (.int c2), .val (.int c3), .val (.ref b658), .val (.ref am708), .val (.int k0), .val (.int k1), .val (.int k2), .val (.int k3), .val (.int (0 : Int32)), .val (.int (3 : Int32)), .unset, .unset]) rfl k) ?_
                  show OwnGo p e below (Tj718.setTop (mkF m 220 #[.val (.int p1), .val (.int p2), .val (.int p3), .val (.int p4), .val (.int p5), .val (.int (Int32.ofNat nn)), .val (.int c0), .val (.int c1), .val (.int c2), .val (.int c3), .val (.ref b658), .val (.ref am708), .val (.int k0), .val (.int k1), .val (.int k2), .val (.int k3), .val (.int (0 : Int32)), .val (.int (3 : Int32)), .unset, .unset] [])) _
                  refine own_back (fun t k => XS.iload Xj718.here hx rfl (hb hby at_220) rfl k) ?_
                  show OwnGo p e below (Tj718.setTop (mkF m 222 #[.val (.int p1), .val (.int p2), .val (.int p3), .val (.int p4), .val (.int p5), .val (.int (Int32.ofNat nn)), .val (.int c0), .val (.int c1), .val (.int c2), .val (.int c3), .val (.ref b658), .val (.ref am708), .val (.int k0), .val (.int k1), .val (.int k2), .val (.int k3), .val (.int (0 : Int32)), .val (.int (3 : Int32)), .unset, .unset] [(.int k3)])) _
                  refine own_back (fun t k => XS.ifYes Xj718.here hx rfl (pc0 := 222) (pc' := 228) rfl (hb hby at_222) rfl (Jvm.Free.XT.i0_eq_t hc162_762) (by decide) (by decide) k) ?_
                  show OwnGo p e below (Tj718.setTop (mkF m 228 #[.val (.int p1), .val (.int p2), .val (.int p3), .val (.int p4), .val (.int p5), .val (.int (Int32.ofNat nn)), .val (.int c0), .val (.int c1), .val (.int c2), .val (.int c3), .val (.ref b658), .val (.ref am708), .val (.int k0), .val (.int k1), .val (.int k2), .val (.int k3), .val (.int (0 : Int32)), .val (.int (3 : Int32)), .unset, .unset] [])) _
                  have g0 := own_k1 hk0 hc186_768
                  have g1 := own_k0 hk1 hc178_767
                  have g2 := own_k1 hk2 hc170_763
                  have g3 := own_k0 hk3 hc162_762
                  have hl0 := g2.1
                  exact tl228_719 _ _ 0 3 ⟨_, _, _, Xj718, ej718, hSj718, hkj718, hZj718, hownj718, CRj718, Oj718, KPj718, Zj718, Nj718⟩ hs718_0 hs718_1 (fun q hq => by have hq4 : q < nn := (by omega); rw [own_at c0 c1 c2 c3 r0 r1 r2 r3 hn (by omega)]; rcases own_lt4 q (by omega) with rfl | rfl | rfl | rfl <;> first | omega | exact g1 (by omega) | exact g3 (by omega)) (fun hq => by rw [own_at c0 c1 c2 c3 r0 r1 r2 r3 hn (by omega)]; exact g0.2) (fun q hq hq2 => by rw [own_at c0 c1 c2 c3 r0 r1 r2 r3 hn (by omega)]; rcases own_lt4 q (by omega) with rfl | rfl | rfl | rfl <;> first | omega | exact g1 (by omega) | exact g3 (by omega)) (fun hq => by rw [own_at c0 c1 c2 c3 r0 r1 r2 r3 hn (by omega)]; exact g2.2) (by omega) (by omega)
              · refine own_back (fun t k => XS.ifNo Xj718.here hx rfl (hb hby at_178) rfl (Jvm.Free.XT.i0_eq_f hc178_767) k) ?_
                show OwnGo p e below (Tj718.setTop (mkF m 181 #[.val (.int p1), .val (.int p2), .val (.int p3), .val (.int p4), .val (.int p5), .val (.int (Int32.ofNat nn)), .val (.int c0), .val (.int c1), .val (.int c2), .val (.int c3), .val (.ref b658), .val (.ref am708), .val (.int k0), .val (.int k1), .val (.int k2), .val (.int k3), .val (.int (2 : Int32)), .unset, .unset, .unset] [])) _
                refine own_back (fun t k => XS.iconst Xj718.here hx rfl (hb hby at_181) k) ?_
                show OwnGo p e below (Tj718.setTop (mkF m 182 #[.val (.int p1), .val (.int p2), .val (.int p3), .val (.int p4), .val (.int p5), .val (.int (Int32.ofNat nn)), .val (.int c0), .val (.int c1), .val (.int c2), .val (.int c3), .val (.ref b658), .val (.ref am708), .val (.int k0), .val (.int k1), .val (.int k2), .val (.int k3), .val (.int (2 : Int32)), .unset, .unset, .unset] [(.int (1 : Int32))])) _
                refine own_back (fun t k => XS.istore Xj718.here hx rfl (hb hby at_182) rfl (l' := #[.val (.int p1), .val (.int p2), .val (.int p3), .val (.int p4), .val (.int p5), .val (.int (Int32.ofNat nn)), .val (.int c0), .val (.int c1), .val (.int c2), .val (.int c3), .val (.ref b658), .val (.ref am708), .val (.int k0), .val (.int k1), .val (.int k2), .val (.int k3), .val (.int (1 : Int32)), .unset, .unset, .unset]) rfl k) ?_
                show OwnGo p e below (Tj718.setTop (mkF m 184 #[.val (.int p1), .val (.int p2), .val (.int p3), .val (.int p4), .val (.int p5), .val (.int (Int32.ofNat nn)), .val (.int c0), .val (.int c1), .val (.int c2), .val (.int c3), .val (.ref b658), .val (.ref am708), .val (.int k0), .val (.int k1), .val (.int k2), .val (.int k3), .val (.int (1 : Int32)), .unset, .unset, .unset] [])) _
                refine own_back (fun t k => XS.iload Xj718.here hx rfl (hb hby at_184) rfl k) ?_
                show OwnGo p e below (Tj718.setTop (mkF m 186 #[.val (.int p1), .val (.int p2), .val (.int p3), .val (.int p4), .val (.int p5), .val (.int (Int32.ofNat nn)), .val (.int c0), .val (.int c1), .val (.int c2), .val (.int c3), .val (.ref b658), .val (.ref am708), .val (.int k0), .val (.int k1), .val (.int k2), .val (.int k3), .val (.int (1 : Int32)), .unset, .unset, .unset] [(.int k0)])) _
                by_cases hc186_769 : k0 = (0 : Int32)
                · refine own_back (fun t k => XS.ifYes Xj718.here hx rfl (pc0 := 186) (pc' := 192) rfl (hb hby at_186) rfl (Jvm.Free.XT.i0_eq_t hc186_769) (by decide) (by decide) k) ?_
                  show OwnGo p e below (Tj718.setTop (mkF m 192 #[.val (.int p1), .val (.int p2), .val (.int p3), .val (.int p4), .val (.int p5), .val (.int (Int32.ofNat nn)), .val (.int c0), .val (.int c1), .val (.int c2), .val (.int c3), .val (.ref b658), .val (.ref am708), .val (.int k0), .val (.int k1), .val (.int k2), .val (.int k3), .val (.int (1 : Int32)), .unset, .unset, .unset] [])) _
                  refine own_back (fun t k => XS.iload Xj718.here hx rfl (hb hby at_192) rfl k) ?_
                  show OwnGo p e below (Tj718.setTop (mkF m 194 #[.val (.int p1), .val (.int p2), .val (.int p3), .val (.int p4), .val (.int p5), .val (.int (Int32.ofNat nn)), .val (.int c0), .val (.int c1), .val (.int c2), .val (.int c3), .val (.ref b658), .val (.ref am708), .val (.int k0), .val (.int k1), .val (.int k2), .val (.int k3), .val (.int (1 : Int32)), .unset, .unset, .unset] [(.int (1 : Int32))])) _
                  refine own_back (fun t k => XS.istore Xj718.here hx rfl (hb hby at_194) rfl (l' := #[.val (.int p1), .val (.int p2), .val (.int p3), .val (.int p4), .val (.int p5), .val (.int (Int32.ofNat nn)), .val (.int c0), .val (.int c1), .val (.int c2), .val (.int c3), .val (.ref b658), .val (.ref am708), .val (.int k0), .val (.int k1), .val (.int k2), .val (.int k3), .val (.int (1 : Int32)), .val (.int (1 : Int32)), .unset, .unset]) rfl k) ?_
                  show OwnGo p e below (Tj718.setTop (mkF m 196 #[.val (.int p1), .val (.int p2), .val (.int p3), .val (.int p4), .val (.int p5), .val (.int (Int32.ofNat nn)), .val (.int c0), .val (.int c1), .val (.int c2), .val (.int c3), .val (.ref b658), .val (.ref am708), .val (.int k0), .val (.int k1), .val (.int k2), .val (.int k3), .val (.int (1 : Int32)), .val (.int (1 : Int32)), .unset, .unset] [])) _
                  refine own_back (fun t k => XS.iload Xj718.here hx rfl (hb hby at_196) rfl k) ?_
                  show OwnGo p e below (Tj718.setTop (mkF m 198 #[.val (.int p1), .val (.int p2), .val (.int p3), .val (.int p4), .val (.int p5), .val (.int (Int32.ofNat nn)), .val (.int c0), .val (.int c1), .val (.int c2), .val (.int c3), .val (.ref b658), .val (.ref am708), .val (.int k0), .val (.int k1), .val (.int k2), .val (.int k3), .val (.int (1 : Int32)), .val (.int (1 : Int32)), .unset, .unset] [(.int k0)])) _
                  refine own_back (fun t k => XS.ifYes Xj718.here hx rfl (pc0 := 198) (pc' := 204) rfl (hb hby at_198) rfl (Jvm.Free.XT.i0_eq_t hc186_769) (by decide) (by decide) k) ?_
                  show OwnGo p e below (Tj718.setTop (mkF m 204 #[.val (.int p1), .val (.int p2), .val (.int p3), .val (.int p4), .val (.int p5), .val (.int (Int32.ofNat nn)), .val (.int c0), .val (.int c1), .val (.int c2), .val (.int c3), .val (.ref b658), .val (.ref am708), .val (.int k0), .val (.int k1), .val (.int k2), .val (.int k3), .val (.int (1 : Int32)), .val (.int (1 : Int32)), .unset, .unset] [])) _
                  refine own_back (fun t k => XS.iload Xj718.here hx rfl (hb hby at_204) rfl k) ?_
                  show OwnGo p e below (Tj718.setTop (mkF m 206 #[.val (.int p1), .val (.int p2), .val (.int p3), .val (.int p4), .val (.int p5), .val (.int (Int32.ofNat nn)), .val (.int c0), .val (.int c1), .val (.int c2), .val (.int c3), .val (.ref b658), .val (.ref am708), .val (.int k0), .val (.int k1), .val (.int k2), .val (.int k3), .val (.int (1 : Int32)), .val (.int (1 : Int32)), .unset, .unset] [(.int k1)])) _
                  refine own_back (fun t k => XS.ifNo Xj718.here hx rfl (hb hby at_206) rfl (Jvm.Free.XT.i0_eq_f hc178_767) k) ?_
                  show OwnGo p e below (Tj718.setTop (mkF m 209 #[.val (.int p1), .val (.int p2), .val (.int p3), .val (.int p4), .val (.int p5), .val (.int (Int32.ofNat nn)), .val (.int c0), .val (.int c1), .val (.int c2), .val (.int c3), .val (.ref b658), .val (.ref am708), .val (.int k0), .val (.int k1), .val (.int k2), .val (.int k3), .val (.int (1 : Int32)), .val (.int (1 : Int32)), .unset, .unset] [])) _
                  refine own_back (fun t k => XS.iconst Xj718.here hx rfl (hb hby at_209) k) ?_
                  show OwnGo p e below (Tj718.setTop (mkF m 210 #[.val (.int p1), .val (.int p2), .val (.int p3), .val (.int p4), .val (.int p5), .val (.int (Int32.ofNat nn)), .val (.int c0), .val (.int c1), .val (.int c2), .val (.int c3), .val (.ref b658), .val (.ref am708), .val (.int k0), .val (.int k1), .val (.int k2), .val (.int k3), .val (.int (1 : Int32)), .val (.int (1 : Int32)), .unset, .unset] [(.int (2 : Int32))])) _
                  refine own_back (fun t k => XS.istore Xj718.here hx rfl (hb hby at_210) rfl (l' := #[.val (.int p1), .val (.int p2), .val (.int p3), .val (.int p4), .val (.int p5), .val (.int (Int32.ofNat nn)), .val (.int c0), .val (.int c1), .val (.int c2), .val (.int c3), .val (.ref b658), .val (.ref am708), .val (.int k0), .val (.int k1), .val (.int k2), .val (.int k3), .val (.int (1 : Int32)), .val (.int (2 : Int32)), .unset, .unset]) rfl k) ?_
                  show OwnGo p e below (Tj718.setTop (mkF m 212 #[.val (.int p1), .val (.int p2), .val (.int p3), .val (.int p4), .val (.int p5), .val (.int (Int32.ofNat nn)), .val (.int c0), .val (.int c1), .val (.int c2), .val (.int c3), .val (.ref b658), .val (.ref am708), .val (.int k0), .val (.int k1), .val (.int k2), .val (.int k3), .val (.int (1 : Int32)), .val (.int (2 : Int32)), .unset, .unset] [])) _
                  refine own_back (fun t k => XS.iload Xj718.here hx rfl (hb hby at_212) rfl k) ?_
                  show OwnGo p e below (Tj718.setTop (mkF m 214 #[.val (.int p1), .val (.int p2), .val (.int p3), .val (.int p4), .val (.int p5), .val (.int (Int32.ofNat nn)), .val (.int c0), .val (.int c1), .val (.int c2), .val (.int c3), .val (.ref b658), .val (.ref am708), .val (.int k0), .val (.int k1), .val (.int k2), .val (.int k3), .val (.int (1 : Int32)), .val (.int (2 : Int32)), .unset, .unset] [(.int k2)])) _
                  refine own_back (fun t k => XS.ifNo Xj718.here hx rfl (hb hby at_214) rfl (Jvm.Free.XT.i0_eq_f hc170_763) k) ?_
                  show OwnGo p e below (Tj718.setTop (mkF m 217 #[.val (.int p1), .val (.int p2), .val (.int p3), .val (.int p4), .val (.int p5), .val (.int (Int32.ofNat nn)), .val (.int c0), .val (.int c1), .val (.int c2), .val (.int c3), .val (.ref b658), .val (.ref am708), .val (.int k0), .val (.int k1), .val (.int k2), .val (.int k3), .val (.int (1 : Int32)), .val (.int (2 : Int32)), .unset, .unset] [])) _
                  refine own_back (fun t k => XS.iconst Xj718.here hx rfl (hb hby at_217) k) ?_
                  show OwnGo p e below (Tj718.setTop (mkF m 218 #[.val (.int p1), .val (.int p2), .val (.int p3), .val (.int p4), .val (.int p5), .val (.int (Int32.ofNat nn)), .val (.int c0), .val (.int c1), .val (.int c2), .val (.int c3), .val (.ref b658), .val (.ref am708), .val (.int k0), .val (.int k1), .val (.int k2), .val (.int k3), .val (.int (1 : Int32)), .val (.int (2 : Int32)), .unset, .unset] [(.int (3 : Int32))])) _
                  refine own_back (fun t k => XS.istore Xj718.here hx rfl (hb hby at_218) rfl (l' := #[.val (.int p1), .val (.int p2), .val (.int p3), .val (.int p4), .val (.int p5), .val (.int (Int32.ofNat nn)), .val (.int c0), .val (.int c1), .val (.int c2), .val (.int c3), .val (.ref b658), .val (.ref am708), .val (.int k0), .val (.int k1), .val (.int k2), .val (.int k3), .val (.int (1 : Int32)), .val (.int (3 : Int32)), .unset, .unset]) rfl k) ?_
                  show OwnGo p e below (Tj718.setTop (mkF m 220 #[.val (.int p1), .val (.int p2), .val (.int p3), .val (.int p4), .val (.int p5), .val (.int (Int32.ofNat nn)), .val (.int c0), .val (.int c1), .val (.int c2), .val (.int c3), .val (.ref b658), .val (.ref am708), .val (.int k0), .val (.int k1), .val (.int k2), .val (.int k3), .val (.int (1 : Int32)), .val (.int (3 : Int32)), .unset, .unset] [])) _
                  refine own_back (fun t k => XS.iload Xj718.here hx rfl (hb hby at_220) rfl k) ?_
                  show OwnGo p e below (Tj718.setTop (mkF m 222 #[.val (.int p1), .val (.int p2), .val (.int p3), .val (.int p4), .val (.int p5), .val (.int (Int32.ofNat nn)), .val (.int c0), .val (.int c1), .val (.int c2), .val (.int c3), .val (.ref b658), .val (.ref am708), .val (.int k0), .val (.int k1), .val (.int k2), .val (.int k3), .val (.int (1 : Int32)), .val (.int (3 : Int32)), .unset, .unset] [(.int k3)])) _
                  refine own_back (fun t k => XS.ifYes Xj718.here hx rfl (pc0 := 222) (pc' := 228) rfl (hb hby at_222) rfl (Jvm.Free.XT.i0_eq_t hc162_762) (by decide) (by decide) k) ?_
                  show OwnGo p e below (Tj718.setTop (mkF m 228 #[.val (.int p1), .val (.int p2), .val (.int p3), .val (.int p4), .val (.int p5), .val (.int (Int32.ofNat nn)), .val (.int c0), .val (.int c1), .val (.int c2), .val (.int c3), .val (.ref b658), .val (.ref am708), .val (.int k0), .val (.int k1), .val (.int k2), .val (.int k3), .val (.int (1 : Int32)), .val (.int (3 : Int32)), .unset, .unset] [])) _
                  have g0 := own_k0 hk0 hc186_769
                  have g1 := own_k1 hk1 hc178_767
                  have g2 := own_k1 hk2 hc170_763
                  have g3 := own_k0 hk3 hc162_762
                  have hl0 := g2.1
                  exact tl228_719 _ _ 1 3 ⟨_, _, _, Xj718, ej718, hSj718, hkj718, hZj718, hownj718, CRj718, Oj718, KPj718, Zj718, Nj718⟩ hs718_0 hs718_1 (fun q hq => by have hq4 : q < nn := (by omega); rw [own_at c0 c1 c2 c3 r0 r1 r2 r3 hn (by omega)]; rcases own_lt4 q (by omega) with rfl | rfl | rfl | rfl <;> first | omega | exact g0 (by omega) | exact g3 (by omega)) (fun hq => by rw [own_at c0 c1 c2 c3 r0 r1 r2 r3 hn (by omega)]; exact g1.2) (fun q hq hq2 => by rw [own_at c0 c1 c2 c3 r0 r1 r2 r3 hn (by omega)]; rcases own_lt4 q (by omega) with rfl | rfl | rfl | rfl <;> first | omega | exact g0 (by omega) | exact g3 (by omega)) (fun hq => by rw [own_at c0 c1 c2 c3 r0 r1 r2 r3 hn (by omega)]; exact g2.2) (by omega) (by omega)
                · refine own_back (fun t k => XS.ifNo Xj718.here hx rfl (hb hby at_186) rfl (Jvm.Free.XT.i0_eq_f hc186_769) k) ?_
                  show OwnGo p e below (Tj718.setTop (mkF m 189 #[.val (.int p1), .val (.int p2), .val (.int p3), .val (.int p4), .val (.int p5), .val (.int (Int32.ofNat nn)), .val (.int c0), .val (.int c1), .val (.int c2), .val (.int c3), .val (.ref b658), .val (.ref am708), .val (.int k0), .val (.int k1), .val (.int k2), .val (.int k3), .val (.int (1 : Int32)), .unset, .unset, .unset] [])) _
                  refine own_back (fun t k => XS.iconst Xj718.here hx rfl (hb hby at_189) k) ?_
                  show OwnGo p e below (Tj718.setTop (mkF m 190 #[.val (.int p1), .val (.int p2), .val (.int p3), .val (.int p4), .val (.int p5), .val (.int (Int32.ofNat nn)), .val (.int c0), .val (.int c1), .val (.int c2), .val (.int c3), .val (.ref b658), .val (.ref am708), .val (.int k0), .val (.int k1), .val (.int k2), .val (.int k3), .val (.int (1 : Int32)), .unset, .unset, .unset] [(.int (0 : Int32))])) _
                  refine own_back (fun t k => XS.istore Xj718.here hx rfl (hb hby at_190) rfl (l' := #[.val (.int p1), .val (.int p2), .val (.int p3), .val (.int p4), .val (.int p5), .val (.int (Int32.ofNat nn)), .val (.int c0), .val (.int c1), .val (.int c2), .val (.int c3), .val (.ref b658), .val (.ref am708), .val (.int k0), .val (.int k1), .val (.int k2), .val (.int k3), .val (.int (0 : Int32)), .unset, .unset, .unset]) rfl k) ?_
                  show OwnGo p e below (Tj718.setTop (mkF m 192 #[.val (.int p1), .val (.int p2), .val (.int p3), .val (.int p4), .val (.int p5), .val (.int (Int32.ofNat nn)), .val (.int c0), .val (.int c1), .val (.int c2), .val (.int c3), .val (.ref b658), .val (.ref am708), .val (.int k0), .val (.int k1), .val (.int k2), .val (.int k3), .val (.int (0 : Int32)), .unset, .unset, .unset] [])) _
                  refine own_back (fun t k => XS.iload Xj718.here hx rfl (hb hby at_192) rfl k) ?_
                  show OwnGo p e below (Tj718.setTop (mkF m 194 #[.val (.int p1), .val (.int p2), .val (.int p3), .val (.int p4), .val (.int p5), .val (.int (Int32.ofNat nn)), .val (.int c0), .val (.int c1), .val (.int c2), .val (.int c3), .val (.ref b658), .val (.ref am708), .val (.int k0), .val (.int k1), .val (.int k2), .val (.int k3), .val (.int (0 : Int32)), .unset, .unset, .unset] [(.int (0 : Int32))])) _
                  refine own_back (fun t k => XS.istore Xj718.here hx rfl (hb hby at_194) rfl (l' := #[.val (.int p1), .val (.int p2), .val (.int p3), .val (.int p4), .val (.int p5), .val (.int (Int32.ofNat nn)), .val (.int c0), .val (.int c1), .val (.int c2), .val (.int c3), .val (.ref b658), .val (.ref am708), .val (.int k0), .val (.int k1), .val (.int k2), .val (.int k3), .val (.int (0 : Int32)), .val (.int (0 : Int32)), .unset, .unset]) rfl k) ?_
                  show OwnGo p e below (Tj718.setTop (mkF m 196 #[.val (.int p1), .val (.int p2), .val (.int p3), .val (.int p4), .val (.int p5), .val (.int (Int32.ofNat nn)), .val (.int c0), .val (.int c1), .val (.int c2), .val (.int c3), .val (.ref b658), .val (.ref am708), .val (.int k0), .val (.int k1), .val (.int k2), .val (.int k3), .val (.int (0 : Int32)), .val (.int (0 : Int32)), .unset, .unset] [])) _
                  refine own_back (fun t k => XS.iload Xj718.here hx rfl (hb hby at_196) rfl k) ?_
                  show OwnGo p e below (Tj718.setTop (mkF m 198 #[.val (.int p1), .val (.int p2), .val (.int p3), .val (.int p4), .val (.int p5), .val (.int (Int32.ofNat nn)), .val (.int c0), .val (.int c1), .val (.int c2), .val (.int c3), .val (.ref b658), .val (.ref am708), .val (.int k0), .val (.int k1), .val (.int k2), .val (.int k3), .val (.int (0 : Int32)), .val (.int (0 : Int32)), .unset, .unset] [(.int k0)])) _
                  refine own_back (fun t k => XS.ifNo Xj718.here hx rfl (hb hby at_198) rfl (Jvm.Free.XT.i0_eq_f hc186_769) k) ?_
                  show OwnGo p e below (Tj718.setTop (mkF m 201 #[.val (.int p1), .val (.int p2), .val (.int p3), .val (.int p4), .val (.int p5), .val (.int (Int32.ofNat nn)), .val (.int c0), .val (.int c1), .val (.int c2), .val (.int c3), .val (.ref b658), .val (.ref am708), .val (.int k0), .val (.int k1), .val (.int k2), .val (.int k3), .val (.int (0 : Int32)), .val (.int (0 : Int32)), .unset, .unset] [])) _
                  refine own_back (fun t k => XS.iconst Xj718.here hx rfl (hb hby at_201) k) ?_
                  show OwnGo p e below (Tj718.setTop (mkF m 202 #[.val (.int p1), .val (.int p2), .val (.int p3), .val (.int p4), .val (.int p5), .val (.int (Int32.ofNat nn)), .val (.int c0), .val (.int c1), .val (.int c2), .val (.int c3), .val (.ref b658), .val (.ref am708), .val (.int k0), .val (.int k1), .val (.int k2), .val (.int k3), .val (.int (0 : Int32)), .val (.int (0 : Int32)), .unset, .unset] [(.int (1 : Int32))])) _
                  refine own_back (fun t k => XS.istore Xj718.here hx rfl (hb hby at_202) rfl (l' := #[.val (.int p1), .val (.int p2), .val (.int p3), .val (.int p4), .val (.int p5), .val (.int (Int32.ofNat nn)), .val (.int c0), .val (.int c1), .val (.int c2), .val (.int c3), .val (.ref b658), .val (.ref am708), .val (.int k0), .val (.int k1), .val (.int k2), .val (.int k3), .val (.int (0 : Int32)), .val (.int (1 : Int32)), .unset, .unset]) rfl k) ?_
                  show OwnGo p e below (Tj718.setTop (mkF m 204 #[.val (.int p1), .val (.int p2), .val (.int p3), .val (.int p4), .val (.int p5), .val (.int (Int32.ofNat nn)), .val (.int c0), .val (.int c1), .val (.int c2), .val (.int c3), .val (.ref b658), .val (.ref am708), .val (.int k0), .val (.int k1), .val (.int k2), .val (.int k3), .val (.int (0 : Int32)), .val (.int (1 : Int32)), .unset, .unset] [])) _
                  refine own_back (fun t k => XS.iload Xj718.here hx rfl (hb hby at_204) rfl k) ?_
                  show OwnGo p e below (Tj718.setTop (mkF m 206 #[.val (.int p1), .val (.int p2), .val (.int p3), .val (.int p4), .val (.int p5), .val (.int (Int32.ofNat nn)), .val (.int c0), .val (.int c1), .val (.int c2), .val (.int c3), .val (.ref b658), .val (.ref am708), .val (.int k0), .val (.int k1), .val (.int k2), .val (.int k3), .val (.int (0 : Int32)), .val (.int (1 : Int32)), .unset, .unset] [(.int k1)])) _
                  refine own_back (fun t k => XS.ifNo Xj718.here hx rfl (hb hby at_206) rfl (Jvm.Free.XT.i0_eq_f hc178_767) k) ?_
                  show OwnGo p e below (Tj718.setTop (mkF m 209 #[.val (.int p1), .val (.int p2), .val (.int p3), .val (.int p4), .val (.int p5), .val (.int (Int32.ofNat nn)), .val (.int c0), .val (.int c1), .val (.int c2), .val (.int c3), .val (.ref b658), .val (.ref am708), .val (.int k0), .val (.int k1), .val (.int k2), .val (.int k3), .val (.int (0 : Int32)), .val (.int (1 : Int32)), .unset, .unset] [])) _
                  refine own_back (fun t k => XS.iconst Xj718.here hx rfl (hb hby at_209) k) ?_
                  show OwnGo p e below (Tj718.setTop (mkF m 210 #[.val (.int p1), .val (.int p2), .val (.int p3), .val (.int p4), .val (.int p5), .val (.int (Int32.ofNat nn)), .val (.int c0), .val (.int c1), .val (.int c2), .val (.int c3), .val (.ref b658), .val (.ref am708), .val (.int k0), .val (.int k1), .val (.int k2), .val (.int k3), .val (.int (0 : Int32)), .val (.int (1 : Int32)), .unset, .unset] [(.int (2 : Int32))])) _
                  refine own_back (fun t k => XS.istore Xj718.here hx rfl (hb hby at_210) rfl (l' := #[.val (.int p1), .val (.int p2), .val (.int p3), .val (.int p4), .val (.int p5), .val (.int (Int32.ofNat nn)), .val (.int c0), .val (.int c1), .val (.int c2), .val (.int c3), .val (.ref b658), .val (.ref am708), .val (.int k0), .val (.int k1), .val (.int k2), .val (.int k3), .val (.int (0 : Int32)), .val (.int (2 : Int32)), .unset, .unset]) rfl k) ?_
                  show OwnGo p e below (Tj718.setTop (mkF m 212 #[.val (.int p1), .val (.int p2), .val (.int p3), .val (.int p4), .val (.int p5), .val (.int (Int32.ofNat nn)), .val (.int c0), .val (.int c1), .val (.int c2), .val (.int c3), .val (.ref b658), .val (.ref am708), .val (.int k0), .val (.int k1), .val (.int k2), .val (.int k3), .val (.int (0 : Int32)), .val (.int (2 : Int32)), .unset, .unset] [])) _
                  refine own_back (fun t k => XS.iload Xj718.here hx rfl (hb hby at_212) rfl k) ?_
                  show OwnGo p e below (Tj718.setTop (mkF m 214 #[.val (.int p1), .val (.int p2), .val (.int p3), .val (.int p4), .val (.int p5), .val (.int (Int32.ofNat nn)), .val (.int c0), .val (.int c1), .val (.int c2), .val (.int c3), .val (.ref b658), .val (.ref am708), .val (.int k0), .val (.int k1), .val (.int k2), .val (.int k3), .val (.int (0 : Int32)), .val (.int (2 : Int32)), .unset, .unset] [(.int k2)])) _
                  refine own_back (fun t k => XS.ifNo Xj718.here hx rfl (hb hby at_214) rfl (Jvm.Free.XT.i0_eq_f hc170_763) k) ?_
                  show OwnGo p e below (Tj718.setTop (mkF m 217 #[.val (.int p1), .val (.int p2), .val (.int p3), .val (.int p4), .val (.int p5), .val (.int (Int32.ofNat nn)), .val (.int c0), .val (.int c1), .val (.int c2), .val (.int c3), .val (.ref b658), .val (.ref am708), .val (.int k0), .val (.int k1), .val (.int k2), .val (.int k3), .val (.int (0 : Int32)), .val (.int (2 : Int32)), .unset, .unset] [])) _
                  refine own_back (fun t k => XS.iconst Xj718.here hx rfl (hb hby at_217) k) ?_
                  show OwnGo p e below (Tj718.setTop (mkF m 218 #[.val (.int p1), .val (.int p2), .val (.int p3), .val (.int p4), .val (.int p5), .val (.int (Int32.ofNat nn)), .val (.int c0), .val (.int c1), .val (.int c2), .val (.int c3), .val (.ref b658), .val (.ref am708), .val (.int k0), .val (.int k1), .val (.int k2), .val (.int k3), .val (.int (0 : Int32)), .val (.int (2 : Int32)), .unset, .unset] [(.int (3 : Int32))])) _
                  refine own_back (fun t k => XS.istore Xj718.here hx rfl (hb hby at_218) rfl (l' := #[.val (.int p1), .val (.int p2), .val (.int p3), .val (.int p4), .val (.int p5), .val (.int (Int32.ofNat nn)), .val (.int c0), .val (.int c1), .val (.int c2), .val (.int c3), .val (.ref b658), .val (.ref am708), .val (.int k0), .val (.int k1), .val (.int k2), .val (.int k3), .val (.int (0 : Int32)), .val (.int (3 : Int32)), .unset, .unset]) rfl k) ?_
                  show OwnGo p e below (Tj718.setTop (mkF m 220 #[.val (.int p1), .val (.int p2), .val (.int p3), .val (.int p4), .val (.int p5), .val (.int (Int32.ofNat nn)), .val (.int c0), .val (.int c1), .val (.int c2), .val (.int c3), .val (.ref b658), .val (.ref am708), .val (.int k0), .val (.int k1), .val (.int k2), .val (.int k3), .val (.int (0 : Int32)), .val (.int (3 : Int32)), .unset, .unset] [])) _
                  refine own_back (fun t k => XS.iload Xj718.here hx rfl (hb hby at_220) rfl k) ?_
                  show OwnGo p e below (Tj718.setTop (mkF m 222 #[.val (.int p1), .val (.int p2), .val (.int p3), .val (.int p4), .val (.int p5), .val (.int (Int32.ofNat nn)), .val (.int c0), .val (.int c1), .val (.int c2), .val (.int c3), .val (.ref b658), .val (.ref am708), .val (.int k0), .val (.int k1), .val (.int k2), .val (.int k3), .val (.int (0 : Int32)), .val (.int (3 : Int32)), .unset, .unset] [(.int k3)])) _
                  refine own_back (fun t k => XS.ifYes Xj718.here hx rfl (pc0 := 222) (pc' := 228) rfl (hb hby at_222) rfl (Jvm.Free.XT.i0_eq_t hc162_762) (by decide) (by decide) k) ?_
                  show OwnGo p e below (Tj718.setTop (mkF m 228 #[.val (.int p1), .val (.int p2), .val (.int p3), .val (.int p4), .val (.int p5), .val (.int (Int32.ofNat nn)), .val (.int c0), .val (.int c1), .val (.int c2), .val (.int c3), .val (.ref b658), .val (.ref am708), .val (.int k0), .val (.int k1), .val (.int k2), .val (.int k3), .val (.int (0 : Int32)), .val (.int (3 : Int32)), .unset, .unset] [])) _
                  have g0 := own_k1 hk0 hc186_769
                  have g1 := own_k1 hk1 hc178_767
                  have g2 := own_k1 hk2 hc170_763
                  have g3 := own_k0 hk3 hc162_762
                  have hl0 := g2.1
                  exact tl228_719 _ _ 0 3 ⟨_, _, _, Xj718, ej718, hSj718, hkj718, hZj718, hownj718, CRj718, Oj718, KPj718, Zj718, Nj718⟩ hs718_0 hs718_1 (fun q hq => by have hq4 : q < nn := (by omega); rw [own_at c0 c1 c2 c3 r0 r1 r2 r3 hn (by omega)]; rcases own_lt4 q (by omega) with rfl | rfl | rfl | rfl <;> first | omega | exact g3 (by omega)) (fun hq => by rw [own_at c0 c1 c2 c3 r0 r1 r2 r3 hn (by omega)]; exact g0.2) (fun q hq hq2 => by rw [own_at c0 c1 c2 c3 r0 r1 r2 r3 hn (by omega)]; rcases own_lt4 q (by omega) with rfl | rfl | rfl | rfl <;> first | omega | exact g3 (by omega)) (fun hq => by rw [own_at c0 c1 c2 c3 r0 r1 r2 r3 hn (by omega)]; exact g2.2) (by omega) (by omega)
          · refine own_back (fun t k => XS.ifNo Xj718.here hx rfl (hb hby at_162) rfl (Jvm.Free.XT.i0_eq_f hc162_762) k) ?_
            show OwnGo p e below (Tj718.setTop (mkF m 165 #[.val (.int p1), .val (.int p2), .val (.int p3), .val (.int p4), .val (.int p5), .val (.int (Int32.ofNat nn)), .val (.int c0), .val (.int c1), .val (.int c2), .val (.int c3), .val (.ref b658), .val (.ref am708), .val (.int k0), .val (.int k1), .val (.int k2), .val (.int k3), .val (.int (Int32.ofNat nn)), .unset, .unset, .unset] [])) _
            refine own_back (fun t k => XS.iconst Xj718.here hx rfl (hb hby at_165) k) ?_
            show OwnGo p e below (Tj718.setTop (mkF m 166 #[.val (.int p1), .val (.int p2), .val (.int p3), .val (.int p4), .val (.int p5), .val (.int (Int32.ofNat nn)), .val (.int c0), .val (.int c1), .val (.int c2), .val (.int c3), .val (.ref b658), .val (.ref am708), .val (.int k0), .val (.int k1), .val (.int k2), .val (.int k3), .val (.int (Int32.ofNat nn)), .unset, .unset, .unset] [(.int (3 : Int32))])) _
            refine own_back (fun t k => XS.istore Xj718.here hx rfl (hb hby at_166) rfl (l' := #[.val (.int p1), .val (.int p2), .val (.int p3), .val (.int p4), .val (.int p5), .val (.int (Int32.ofNat nn)), .val (.int c0), .val (.int c1), .val (.int c2), .val (.int c3), .val (.ref b658), .val (.ref am708), .val (.int k0), .val (.int k1), .val (.int k2), .val (.int k3), .val (.int (3 : Int32)), .unset, .unset, .unset]) rfl k) ?_
            show OwnGo p e below (Tj718.setTop (mkF m 168 #[.val (.int p1), .val (.int p2), .val (.int p3), .val (.int p4), .val (.int p5), .val (.int (Int32.ofNat nn)), .val (.int c0), .val (.int c1), .val (.int c2), .val (.int c3), .val (.ref b658), .val (.ref am708), .val (.int k0), .val (.int k1), .val (.int k2), .val (.int k3), .val (.int (3 : Int32)), .unset, .unset, .unset] [])) _
            refine own_back (fun t k => XS.iload Xj718.here hx rfl (hb hby at_168) rfl k) ?_
            show OwnGo p e below (Tj718.setTop (mkF m 170 #[.val (.int p1), .val (.int p2), .val (.int p3), .val (.int p4), .val (.int p5), .val (.int (Int32.ofNat nn)), .val (.int c0), .val (.int c1), .val (.int c2), .val (.int c3), .val (.ref b658), .val (.ref am708), .val (.int k0), .val (.int k1), .val (.int k2), .val (.int k3), .val (.int (3 : Int32)), .unset, .unset, .unset] [(.int k2)])) _
            by_cases hc170_770 : k2 = (0 : Int32)
            · refine own_back (fun t k => XS.ifYes Xj718.here hx rfl (pc0 := 170) (pc' := 176) rfl (hb hby at_170) rfl (Jvm.Free.XT.i0_eq_t hc170_770) (by decide) (by decide) k) ?_
              show OwnGo p e below (Tj718.setTop (mkF m 176 #[.val (.int p1), .val (.int p2), .val (.int p3), .val (.int p4), .val (.int p5), .val (.int (Int32.ofNat nn)), .val (.int c0), .val (.int c1), .val (.int c2), .val (.int c3), .val (.ref b658), .val (.ref am708), .val (.int k0), .val (.int k1), .val (.int k2), .val (.int k3), .val (.int (3 : Int32)), .unset, .unset, .unset] [])) _
              refine own_back (fun t k => XS.iload Xj718.here hx rfl (hb hby at_176) rfl k) ?_
              show OwnGo p e below (Tj718.setTop (mkF m 178 #[.val (.int p1), .val (.int p2), .val (.int p3), .val (.int p4), .val (.int p5), .val (.int (Int32.ofNat nn)), .val (.int c0), .val (.int c1), .val (.int c2), .val (.int c3), .val (.ref b658), .val (.ref am708), .val (.int k0), .val (.int k1), .val (.int k2), .val (.int k3), .val (.int (3 : Int32)), .unset, .unset, .unset] [(.int k1)])) _
              by_cases hc178_771 : k1 = (0 : Int32)
              · refine own_back (fun t k => XS.ifYes Xj718.here hx rfl (pc0 := 178) (pc' := 184) rfl (hb hby at_178) rfl (Jvm.Free.XT.i0_eq_t hc178_771) (by decide) (by decide) k) ?_
                show OwnGo p e below (Tj718.setTop (mkF m 184 #[.val (.int p1), .val (.int p2), .val (.int p3), .val (.int p4), .val (.int p5), .val (.int (Int32.ofNat nn)), .val (.int c0), .val (.int c1), .val (.int c2), .val (.int c3), .val (.ref b658), .val (.ref am708), .val (.int k0), .val (.int k1), .val (.int k2), .val (.int k3), .val (.int (3 : Int32)), .unset, .unset, .unset] [])) _
                refine own_back (fun t k => XS.iload Xj718.here hx rfl (hb hby at_184) rfl k) ?_
                show OwnGo p e below (Tj718.setTop (mkF m 186 #[.val (.int p1), .val (.int p2), .val (.int p3), .val (.int p4), .val (.int p5), .val (.int (Int32.ofNat nn)), .val (.int c0), .val (.int c1), .val (.int c2), .val (.int c3), .val (.ref b658), .val (.ref am708), .val (.int k0), .val (.int k1), .val (.int k2), .val (.int k3), .val (.int (3 : Int32)), .unset, .unset, .unset] [(.int k0)])) _
                by_cases hc186_772 : k0 = (0 : Int32)
                · refine own_back (fun t k => XS.ifYes Xj718.here hx rfl (pc0 := 186) (pc' := 192) rfl (hb hby at_186) rfl (Jvm.Free.XT.i0_eq_t hc186_772) (by decide) (by decide) k) ?_
                  show OwnGo p e below (Tj718.setTop (mkF m 192 #[.val (.int p1), .val (.int p2), .val (.int p3), .val (.int p4), .val (.int p5), .val (.int (Int32.ofNat nn)), .val (.int c0), .val (.int c1), .val (.int c2), .val (.int c3), .val (.ref b658), .val (.ref am708), .val (.int k0), .val (.int k1), .val (.int k2), .val (.int k3), .val (.int (3 : Int32)), .unset, .unset, .unset] [])) _
                  refine own_back (fun t k => XS.iload Xj718.here hx rfl (hb hby at_192) rfl k) ?_
                  show OwnGo p e below (Tj718.setTop (mkF m 194 #[.val (.int p1), .val (.int p2), .val (.int p3), .val (.int p4), .val (.int p5), .val (.int (Int32.ofNat nn)), .val (.int c0), .val (.int c1), .val (.int c2), .val (.int c3), .val (.ref b658), .val (.ref am708), .val (.int k0), .val (.int k1), .val (.int k2), .val (.int k3), .val (.int (3 : Int32)), .unset, .unset, .unset] [(.int (3 : Int32))])) _
                  refine own_back (fun t k => XS.istore Xj718.here hx rfl (hb hby at_194) rfl (l' := #[.val (.int p1), .val (.int p2), .val (.int p3), .val (.int p4), .val (.int p5), .val (.int (Int32.ofNat nn)), .val (.int c0), .val (.int c1), .val (.int c2), .val (.int c3), .val (.ref b658), .val (.ref am708), .val (.int k0), .val (.int k1), .val (.int k2), .val (.int k3), .val (.int (3 : Int32)), .val (.int (3 : Int32)), .unset, .unset]) rfl k) ?_
                  show OwnGo p e below (Tj718.setTop (mkF m 196 #[.val (.int p1), .val (.int p2), .val (.int p3), .val (.int p4), .val (.int p5), .val (.int (Int32.ofNat nn)), .val (.int c0), .val (.int c1), .val (.int c2), .val (.int c3), .val (.ref b658), .val (.ref am708), .val (.int k0), .val (.int k1), .val (.int k2), .val (.int k3), .val (.int (3 : Int32)), .val (.int (3 : Int32)), .unset, .unset] [])) _
                  refine own_back (fun t k => XS.iload Xj718.here hx rfl (hb hby at_196) rfl k) ?_
                  show OwnGo p e below (Tj718.setTop (mkF m 198 #[.val (.int p1), .val (.int p2), .val (.int p3), .val (.int p4), .val (.int p5), .val (.int (Int32.ofNat nn)), .val (.int c0), .val (.int c1), .val (.int c2), .val (.int c3), .val (.ref b658), .val (.ref am708), .val (.int k0), .val (.int k1), .val (.int k2), .val (.int k3), .val (.int (3 : Int32)), .val (.int (3 : Int32)), .unset, .unset] [(.int k0)])) _
                  refine own_back (fun t k => XS.ifYes Xj718.here hx rfl (pc0 := 198) (pc' := 204) rfl (hb hby at_198) rfl (Jvm.Free.XT.i0_eq_t hc186_772) (by decide) (by decide) k) ?_
                  show OwnGo p e below (Tj718.setTop (mkF m 204 #[.val (.int p1), .val (.int p2), .val (.int p3), .val (.int p4), .val (.int p5), .val (.int (Int32.ofNat nn)), .val (.int c0), .val (.int c1), .val (.int c2), .val (.int c3), .val (.ref b658), .val (.ref am708), .val (.int k0), .val (.int k1), .val (.int k2), .val (.int k3), .val (.int (3 : Int32)), .val (.int (3 : Int32)), .unset, .unset] [])) _
                  refine own_back (fun t k => XS.iload Xj718.here hx rfl (hb hby at_204) rfl k) ?_
                  show OwnGo p e below (Tj718.setTop (mkF m 206 #[.val (.int p1), .val (.int p2), .val (.int p3), .val (.int p4), .val (.int p5), .val (.int (Int32.ofNat nn)), .val (.int c0), .val (.int c1), .val (.int c2), .val (.int c3), .val (.ref b658), .val (.ref am708), .val (.int k0), .val (.int k1), .val (.int k2), .val (.int k3), .val (.int (3 : Int32)), .val (.int (3 : Int32)), .unset, .unset] [(.int k1)])) _
                  refine own_back (fun t k => XS.ifYes Xj718.here hx rfl (pc0 := 206) (pc' := 212) rfl (hb hby at_206) rfl (Jvm.Free.XT.i0_eq_t hc178_771) (by decide) (by decide) k) ?_
                  show OwnGo p e below (Tj718.setTop (mkF m 212 #[.val (.int p1), .val (.int p2), .val (.int p3), .val (.int p4), .val (.int p5), .val (.int (Int32.ofNat nn)), .val (.int c0), .val (.int c1), .val (.int c2), .val (.int c3), .val (.ref b658), .val (.ref am708), .val (.int k0), .val (.int k1), .val (.int k2), .val (.int k3), .val (.int (3 : Int32)), .val (.int (3 : Int32)), .unset, .unset] [])) _
                  refine own_back (fun t k => XS.iload Xj718.here hx rfl (hb hby at_212) rfl k) ?_
                  show OwnGo p e below (Tj718.setTop (mkF m 214 #[.val (.int p1), .val (.int p2), .val (.int p3), .val (.int p4), .val (.int p5), .val (.int (Int32.ofNat nn)), .val (.int c0), .val (.int c1), .val (.int c2), .val (.int c3), .val (.ref b658), .val (.ref am708), .val (.int k0), .val (.int k1), .val (.int k2), .val (.int k3), .val (.int (3 : Int32)), .val (.int (3 : Int32)), .unset, .unset] [(.int k2)])) _
                  refine own_back (fun t k => XS.ifYes Xj718.here hx rfl (pc0 := 214) (pc' := 220) rfl (hb hby at_214) rfl (Jvm.Free.XT.i0_eq_t hc170_770) (by decide) (by decide) k) ?_
                  show OwnGo p e below (Tj718.setTop (mkF m 220 #[.val (.int p1), .val (.int p2), .val (.int p3), .val (.int p4), .val (.int p5), .val (.int (Int32.ofNat nn)), .val (.int c0), .val (.int c1), .val (.int c2), .val (.int c3), .val (.ref b658), .val (.ref am708), .val (.int k0), .val (.int k1), .val (.int k2), .val (.int k3), .val (.int (3 : Int32)), .val (.int (3 : Int32)), .unset, .unset] [])) _
                  refine own_back (fun t k => XS.iload Xj718.here hx rfl (hb hby at_220) rfl k) ?_
                  show OwnGo p e below (Tj718.setTop (mkF m 222 #[.val (.int p1), .val (.int p2), .val (.int p3), .val (.int p4), .val (.int p5), .val (.int (Int32.ofNat nn)), .val (.int c0), .val (.int c1), .val (.int c2), .val (.int c3), .val (.ref b658), .val (.ref am708), .val (.int k0), .val (.int k1), .val (.int k2), .val (.int k3), .val (.int (3 : Int32)), .val (.int (3 : Int32)), .unset, .unset] [(.int k3)])) _
                  refine own_back (fun t k => XS.ifNo Xj718.here hx rfl (hb hby at_222) rfl (Jvm.Free.XT.i0_eq_f hc162_762) k) ?_
                  show OwnGo p e below (Tj718.setTop (mkF m 225 #[.val (.int p1), .val (.int p2), .val (.int p3), .val (.int p4), .val (.int p5), .val (.int (Int32.ofNat nn)), .val (.int c0), .val (.int c1), .val (.int c2), .val (.int c3), .val (.ref b658), .val (.ref am708), .val (.int k0), .val (.int k1), .val (.int k2), .val (.int k3), .val (.int (3 : Int32)), .val (.int (3 : Int32)), .unset, .unset] [])) _
                  refine own_back (fun t k => XS.iconst Xj718.here hx rfl (hb hby at_225) k) ?_
                  show OwnGo p e below (Tj718.setTop (mkF m 226 #[.val (.int p1), .val (.int p2), .val (.int p3), .val (.int p4), .val (.int p5), .val (.int (Int32.ofNat nn)), .val (.int c0), .val (.int c1), .val (.int c2), .val (.int c3), .val (.ref b658), .val (.ref am708), .val (.int k0), .val (.int k1), .val (.int k2), .val (.int k3), .val (.int (3 : Int32)), .val (.int (3 : Int32)), .unset, .unset] [(.int (4 : Int32))])) _
                  refine own_back (fun t k => XS.istore Xj718.here hx rfl (hb hby at_226) rfl (l' := #[.val (.int p1), .val (.int p2), .val (.int p3), .val (.int p4), .val (.int p5), .val (.int (Int32.ofNat nn)), .val (.int c0), .val (.int c1), .val (.int c2), .val (.int c3), .val (.ref b658), .val (.ref am708), .val (.int k0), .val (.int k1), .val (.int k2), .val (.int k3), .val (.int (3 : Int32)), .val (.int (4 : Int32)), .unset, .unset]) rfl k) ?_
                  show OwnGo p e below (Tj718.setTop (mkF m 228 #[.val (.int p1), .val (.int p2), .val (.int p3), .val (.int p4), .val (.int p5), .val (.int (Int32.ofNat nn)), .val (.int c0), .val (.int c1), .val (.int c2), .val (.int c3), .val (.ref b658), .val (.ref am708), .val (.int k0), .val (.int k1), .val (.int k2), .val (.int k3), .val (.int (3 : Int32)), .val (.int (4 : Int32)), .unset, .unset] [])) _
                  have g0 := own_k0 hk0 hc186_772
                  have g1 := own_k0 hk1 hc178_771
                  have g2 := own_k0 hk2 hc170_770
                  have g3 := own_k1 hk3 hc162_762
                  have hl0 := g3.1
                  exact tl228_719 _ _ 3 4 ⟨_, _, _, Xj718, ej718, hSj718, hkj718, hZj718, hownj718, CRj718, Oj718, KPj718, Zj718, Nj718⟩ hs718_0 hs718_1 (fun q hq => by have hq4 : q < nn := (by omega); rw [own_at c0 c1 c2 c3 r0 r1 r2 r3 hn (by omega)]; rcases own_lt4 q (by omega) with rfl | rfl | rfl | rfl <;> first | omega | exact g0 (by omega) | exact g1 (by omega) | exact g2 (by omega)) (fun hq => by rw [own_at c0 c1 c2 c3 r0 r1 r2 r3 hn (by omega)]; exact g3.2) (fun q hq hq2 => by rw [own_at c0 c1 c2 c3 r0 r1 r2 r3 hn (by omega)]; rcases own_lt4 q (by omega) with rfl | rfl | rfl | rfl <;> first | omega | exact g0 (by omega) | exact g1 (by omega) | exact g2 (by omega)) (fun hq => by rw [own_at c0 c1 c2 c3 r0 r1 r2 r3 hn (by omega)]; exact g3.2) (by omega) (by omega)
                · refine own_back (fun t k => XS.ifNo Xj718.here hx rfl (hb hby at_186) rfl (Jvm.Free.XT.i0_eq_f hc186_772) k) ?_
                  show OwnGo p e below (Tj718.setTop (mkF m 189 #[.val (.int p1), .val (.int p2), .val (.int p3), .val (.int p4), .val (.int p5), .val (.int (Int32.ofNat nn)), .val (.int c0), .val (.int c1), .val (.int c2), .val (.int c3), .val (.ref b658), .val (.ref am708), .val (.int k0), .val (.int k1), .val (.int k2), .val (.int k3), .val (.int (3 : Int32)), .unset, .unset, .unset] [])) _
                  refine own_back (fun t k => XS.iconst Xj718.here hx rfl (hb hby at_189) k) ?_
                  show OwnGo p e below (Tj718.setTop (mkF m 190 #[.val (.int p1), .val (.int p2), .val (.int p3), .val (.int p4), .val (.int p5), .val (.int (Int32.ofNat nn)), .val (.int c0), .val (.int c1), .val (.int c2), .val (.int c3), .val (.ref b658), .val (.ref am708), .val (.int k0), .val (.int k1), .val (.int k2), .val (.int k3), .val (.int (3 : Int32)), .unset, .unset, .unset] [(.int (0 : Int32))])) _
                  refine own_back (fun t k => XS.istore Xj718.here hx rfl (hb hby at_190) rfl (l' := #[.val (.int p1), .val (.int p2), .val (.int p3), .val (.int p4), .val (.int p5), .val (.int (Int32.ofNat nn)), .val (.int c0), .val (.int c1), .val (.int c2), .val (.int c3), .val (.ref b658), .val (.ref am708), .val (.int k0), .val (.int k1), .val (.int k2), .val (.int k3), .val (.int (0 : Int32)), .unset, .unset, .unset]) rfl k) ?_
                  show OwnGo p e below (Tj718.setTop (mkF m 192 #[.val (.int p1), .val (.int p2), .val (.int p3), .val (.int p4), .val (.int p5), .val (.int (Int32.ofNat nn)), .val (.int c0), .val (.int c1), .val (.int c2), .val (.int c3), .val (.ref b658), .val (.ref am708), .val (.int k0), .val (.int k1), .val (.int k2), .val (.int k3), .val (.int (0 : Int32)), .unset, .unset, .unset] [])) _
                  refine own_back (fun t k => XS.iload Xj718.here hx rfl (hb hby at_192) rfl k) ?_
                  show OwnGo p e below (Tj718.setTop (mkF m 194 #[.val (.int p1), .val (.int p2), .val (.int p3), .val (.int p4), .val (.int p5), .val (.int (Int32.ofNat nn)), .val (.int c0), .val (.int c1), .val (.int c2), .val (.int c3), .val (.ref b658), .val (.ref am708), .val (.int k0), .val (.int k1), .val (.int k2), .val (.int k3), .val (.int (0 : Int32)), .unset, .unset, .unset] [(.int (0 : Int32))])) _
                  refine own_back (fun t k => XS.istore Xj718.here hx rfl (hb hby at_194) rfl (l' := #[.val (.int p1), .val (.int p2), .val (.int p3), .val (.int p4), .val (.int p5), .val (.int (Int32.ofNat nn)), .val (.int c0), .val (.int c1), .val (.int c2), .val (.int c3), .val (.ref b658), .val (.ref am708), .val (.int k0), .val (.int k1), .val (.int k2), .val (.int k3), .val (.int (0 : Int32)), .val (.int (0 : Int32)), .unset, .unset]) rfl k) ?_
                  show OwnGo p e below (Tj718.setTop (mkF m 196 #[.val (.int p1), .val (.int p2), .val (.int p3), .val (.int p4), .val (.int p5), .val (.int (Int32.ofNat nn)), .val (.int c0), .val (.int c1), .val (.int c2), .val (.int c3), .val (.ref b658), .val (.ref am708), .val (.int k0), .val (.int k1), .val (.int k2), .val (.int k3), .val (.int (0 : Int32)), .val (.int (0 : Int32)), .unset, .unset] [])) _
                  refine own_back (fun t k => XS.iload Xj718.here hx rfl (hb hby at_196) rfl k) ?_
                  show OwnGo p e below (Tj718.setTop (mkF m 198 #[.val (.int p1), .val (.int p2), .val (.int p3), .val (.int p4), .val (.int p5), .val (.int (Int32.ofNat nn)), .val (.int c0), .val (.int c1), .val (.int c2), .val (.int c3), .val (.ref b658), .val (.ref am708), .val (.int k0), .val (.int k1), .val (.int k2), .val (.int k3), .val (.int (0 : Int32)), .val (.int (0 : Int32)), .unset, .unset] [(.int k0)])) _
                  refine own_back (fun t k => XS.ifNo Xj718.here hx rfl (hb hby at_198) rfl (Jvm.Free.XT.i0_eq_f hc186_772) k) ?_
                  show OwnGo p e below (Tj718.setTop (mkF m 201 #[.val (.int p1), .val (.int p2), .val (.int p3), .val (.int p4), .val (.int p5), .val (.int (Int32.ofNat nn)), .val (.int c0), .val (.int c1), .val (.int c2), .val (.int c3), .val (.ref b658), .val (.ref am708), .val (.int k0), .val (.int k1), .val (.int k2), .val (.int k3), .val (.int (0 : Int32)), .val (.int (0 : Int32)), .unset, .unset] [])) _
                  refine own_back (fun t k => XS.iconst Xj718.here hx rfl (hb hby at_201) k) ?_
                  show OwnGo p e below (Tj718.setTop (mkF m 202 #[.val (.int p1), .val (.int p2), .val (.int p3), .val (.int p4), .val (.int p5), .val (.int (Int32.ofNat nn)), .val (.int c0), .val (.int c1), .val (.int c2), .val (.int c3), .val (.ref b658), .val (.ref am708), .val (.int k0), .val (.int k1), .val (.int k2), .val (.int k3), .val (.int (0 : Int32)), .val (.int (0 : Int32)), .unset, .unset] [(.int (1 : Int32))])) _
                  refine own_back (fun t k => XS.istore Xj718.here hx rfl (hb hby at_202) rfl (l' := #[.val (.int p1), .val (.int p2), .val (.int p3), .val (.int p4), .val (.int p5), .val (.int (Int32.ofNat nn)), .val (.int c0), .val (.int c1), .val (.int c2), .val (.int c3), .val (.ref b658), .val (.ref am708), .val (.int k0), .val (.int k1), .val (.int k2), .val (.int k3), .val (.int (0 : Int32)), .val (.int (1 : Int32)), .unset, .unset]) rfl k) ?_
                  show OwnGo p e below (Tj718.setTop (mkF m 204 #[.val (.int p1), .val (.int p2), .val (.int p3), .val (.int p4), .val (.int p5), .val (.int (Int32.ofNat nn)), .val (.int c0), .val (.int c1), .val (.int c2), .val (.int c3), .val (.ref b658), .val (.ref am708), .val (.int k0), .val (.int k1), .val (.int k2), .val (.int k3), .val (.int (0 : Int32)), .val (.int (1 : Int32)), .unset, .unset] [])) _
                  refine own_back (fun t k => XS.iload Xj718.here hx rfl (hb hby at_204) rfl k) ?_
                  show OwnGo p e below (Tj718.setTop (mkF m 206 #[.val (.int p1), .val (.int p2), .val (.int p3), .val (.int p4), .val (.int p5), .val (.int (Int32.ofNat nn)), .val (.int c0), .val (.int c1), .val (.int c2), .val (.int c3), .val (.ref b658), .val (.ref am708), .val (.int k0), .val (.int k1), .val (.int k2), .val (.int k3), .val (.int (0 : Int32)), .val (.int (1 : Int32)), .unset, .unset] [(.int k1)])) _
                  refine own_back (fun t k => XS.ifYes Xj718.here hx rfl (pc0 := 206) (pc' := 212) rfl (hb hby at_206) rfl (Jvm.Free.XT.i0_eq_t hc178_771) (by decide) (by decide) k) ?_
                  show OwnGo p e below (Tj718.setTop (mkF m 212 #[.val (.int p1), .val (.int p2), .val (.int p3), .val (.int p4), .val (.int p5), .val (.int (Int32.ofNat nn)), .val (.int c0), .val (.int c1), .val (.int c2), .val (.int c3), .val (.ref b658), .val (.ref am708), .val (.int k0), .val (.int k1), .val (.int k2), .val (.int k3), .val (.int (0 : Int32)), .val (.int (1 : Int32)), .unset, .unset] [])) _
                  refine own_back (fun t k => XS.iload Xj718.here hx rfl (hb hby at_212) rfl k) ?_
                  show OwnGo p e below (Tj718.setTop (mkF m 214 #[.val (.int p1), .val (.int p2), .val (.int p3), .val (.int p4), .val (.int p5), .val (.int (Int32.ofNat nn)), .val (.int c0), .val (.int c1), .val (.int c2), .val (.int c3), .val (.ref b658), .val (.ref am708), .val (.int k0), .val (.int k1), .val (.int k2), .val (.int k3), .val (.int (0 : Int32)), .val (.int (1 : Int32)), .unset, .unset] [(.int k2)])) _
                  refine own_back (fun t k => XS.ifYes Xj718.here hx rfl (pc0 := 214) (pc' := 220) rfl (hb hby at_214) rfl (Jvm.Free.XT.i0_eq_t hc170_770) (by decide) (by decide) k) ?_
                  show OwnGo p e below (Tj718.setTop (mkF m 220 #[.val (.int p1), .val (.int p2), .val (.int p3), .val (.int p4), .val (.int p5), .val (.int (Int32.ofNat nn)), .val (.int c0), .val (.int c1), .val (.int c2), .val (.int c3), .val (.ref b658), .val (.ref am708), .val (.int k0), .val (.int k1), .val (.int k2), .val (.int k3), .val (.int (0 : Int32)), .val (.int (1 : Int32)), .unset, .unset] [])) _
                  refine own_back (fun t k => XS.iload Xj718.here hx rfl (hb hby at_220) rfl k) ?_
                  show OwnGo p e below (Tj718.setTop (mkF m 222 #[.val (.int p1), .val (.int p2), .val (.int p3), .val (.int p4), .val (.int p5), .val (.int (Int32.ofNat nn)), .val (.int c0), .val (.int c1), .val (.int c2), .val (.int c3), .val (.ref b658), .val (.ref am708), .val (.int k0), .val (.int k1), .val (.int k2), .val (.int k3), .val (.int (0 : Int32)), .val (.int (1 : Int32)), .unset, .unset] [(.int k3)])) _
                  refine own_back (fun t k => XS.ifNo Xj718.here hx rfl (hb hby at_222) rfl (Jvm.Free.XT.i0_eq_f hc162_762) k) ?_
                  show OwnGo p e below (Tj718.setTop (mkF m 225 #[.val (.int p1), .val (.int p2), .val (.int p3), .val (.int p4), .val (.int p5), .val (.int (Int32.ofNat nn)), .val (.int c0), .val (.int c1), .val (.int c2), .val (.int c3), .val (.ref b658), .val (.ref am708), .val (.int k0), .val (.int k1), .val (.int k2), .val (.int k3), .val (.int (0 : Int32)), .val (.int (1 : Int32)), .unset, .unset] [])) _
                  refine own_back (fun t k => XS.iconst Xj718.here hx rfl (hb hby at_225) k) ?_
                  show OwnGo p e below (Tj718.setTop (mkF m 226 #[.val (.int p1), .val (.int p2), .val (.int p3), .val (.int p4), .val (.int p5), .val (.int (Int32.ofNat nn)), .val (.int c0), .val (.int c1), .val (.int c2), .val (.int c3), .val (.ref b658), .val (.ref am708), .val (.int k0), .val (.int k1), .val (.int k2), .val (.int k3), .val (.int (0 : Int32)), .val (.int (1 : Int32)), .unset, .unset] [(.int (4 : Int32))])) _
                  refine own_back (fun t k => XS.istore Xj718.here hx rfl (hb hby at_226) rfl (l' := #[.val (.int p1), .val (.int p2), .val (.int p3), .val (.int p4), .val (.int p5), .val (.int (Int32.ofNat nn)), .val (.int c0), .val (.int c1), .val (.int c2), .val (.int c3), .val (.ref b658), .val (.ref am708), .val (.int k0), .val (.int k1), .val (.int k2), .val (.int k3), .val (.int (0 : Int32)), .val (.int (4 : Int32)), .unset, .unset]) rfl k) ?_
                  show OwnGo p e below (Tj718.setTop (mkF m 228 #[.val (.int p1), .val (.int p2), .val (.int p3), .val (.int p4), .val (.int p5), .val (.int (Int32.ofNat nn)), .val (.int c0), .val (.int c1), .val (.int c2), .val (.int c3), .val (.ref b658), .val (.ref am708), .val (.int k0), .val (.int k1), .val (.int k2), .val (.int k3), .val (.int (0 : Int32)), .val (.int (4 : Int32)), .unset, .unset] [])) _
                  have g0 := own_k1 hk0 hc186_772
                  have g1 := own_k0 hk1 hc178_771
                  have g2 := own_k0 hk2 hc170_770
                  have g3 := own_k1 hk3 hc162_762
                  have hl0 := g3.1
                  exact tl228_719 _ _ 0 4 ⟨_, _, _, Xj718, ej718, hSj718, hkj718, hZj718, hownj718, CRj718, Oj718, KPj718, Zj718, Nj718⟩ hs718_0 hs718_1 (fun q hq => by have hq4 : q < nn := (by omega); rw [own_at c0 c1 c2 c3 r0 r1 r2 r3 hn (by omega)]; rcases own_lt4 q (by omega) with rfl | rfl | rfl | rfl <;> first | omega | exact g1 (by omega) | exact g2 (by omega)) (fun hq => by rw [own_at c0 c1 c2 c3 r0 r1 r2 r3 hn (by omega)]; exact g0.2) (fun q hq hq2 => by rw [own_at c0 c1 c2 c3 r0 r1 r2 r3 hn (by omega)]; rcases own_lt4 q (by omega) with rfl | rfl | rfl | rfl <;> first | omega | exact g1 (by omega) | exact g2 (by omega)) (fun hq => by rw [own_at c0 c1 c2 c3 r0 r1 r2 r3 hn (by omega)]; exact g3.2) (by omega) (by omega)
              · refine own_back (fun t k => XS.ifNo Xj718.here hx rfl (hb hby at_178) rfl (Jvm.Free.XT.i0_eq_f hc178_771) k) ?_
                show OwnGo p e below (Tj718.setTop (mkF m 181 #[.val (.int p1), .val (.int p2), .val (.int p3), .val (.int p4), .val (.int p5), .val (.int (Int32.ofNat nn)), .val (.int c0), .val (.int c1), .val (.int c2), .val (.int c3), .val (.ref b658), .val (.ref am708), .val (.int k0), .val (.int k1), .val (.int k2), .val (.int k3), .val (.int (3 : Int32)), .unset, .unset, .unset] [])) _
                refine own_back (fun t k => XS.iconst Xj718.here hx rfl (hb hby at_181) k) ?_
                show OwnGo p e below (Tj718.setTop (mkF m 182 #[.val (.int p1), .val (.int p2), .val (.int p3), .val (.int p4), .val (.int p5), .val (.int (Int32.ofNat nn)), .val (.int c0), .val (.int c1), .val (.int c2), .val (.int c3), .val (.ref b658), .val (.ref am708), .val (.int k0), .val (.int k1), .val (.int k2), .val (.int k3), .val (.int (3 : Int32)), .unset, .unset, .unset] [(.int (1 : Int32))])) _
                refine own_back (fun t k => XS.istore Xj718.here hx rfl (hb hby at_182) rfl (l' := #[.val (.int p1), .val (.int p2), .val (.int p3), .val (.int p4), .val (.int p5), .val (.int (Int32.ofNat nn)), .val (.int c0), .val (.int c1), .val (.int c2), .val (.int c3), .val (.ref b658), .val (.ref am708), .val (.int k0), .val (.int k1), .val (.int k2), .val (.int k3), .val (.int (1 : Int32)), .unset, .unset, .unset]) rfl k) ?_
                show OwnGo p e below (Tj718.setTop (mkF m 184 #[.val (.int p1), .val (.int p2), .val (.int p3), .val (.int p4), .val (.int p5), .val (.int (Int32.ofNat nn)), .val (.int c0), .val (.int c1), .val (.int c2), .val (.int c3), .val (.ref b658), .val (.ref am708), .val (.int k0), .val (.int k1), .val (.int k2), .val (.int k3), .val (.int (1 : Int32)), .unset, .unset, .unset] [])) _
                refine own_back (fun t k => XS.iload Xj718.here hx rfl (hb hby at_184) rfl k) ?_
                show OwnGo p e below (Tj718.setTop (mkF m 186 #[.val (.int p1), .val (.int p2), .val (.int p3), .val (.int p4), .val (.int p5), .val (.int (Int32.ofNat nn)), .val (.int c0), .val (.int c1), .val (.int c2), .val (.int c3), .val (.ref b658), .val (.ref am708), .val (.int k0), .val (.int k1), .val (.int k2), .val (.int k3), .val (.int (1 : Int32)), .unset, .unset, .unset] [(.int k0)])) _
                by_cases hc186_773 : k0 = (0 : Int32)
                · refine own_back (fun t k => XS.ifYes Xj718.here hx rfl (pc0 := 186) (pc' := 192) rfl (hb hby at_186) rfl (Jvm.Free.XT.i0_eq_t hc186_773) (by decide) (by decide) k) ?_
                  show OwnGo p e below (Tj718.setTop (mkF m 192 #[.val (.int p1), .val (.int p2), .val (.int p3), .val (.int p4), .val (.int p5), .val (.int (Int32.ofNat nn)), .val (.int c0), .val (.int c1), .val (.int c2), .val (.int c3), .val (.ref b658), .val (.ref am708), .val (.int k0), .val (.int k1), .val (.int k2), .val (.int k3), .val (.int (1 : Int32)), .unset, .unset, .unset] [])) _
                  refine own_back (fun t k => XS.iload Xj718.here hx rfl (hb hby at_192) rfl k) ?_
                  show OwnGo p e below (Tj718.setTop (mkF m 194 #[.val (.int p1), .val (.int p2), .val (.int p3), .val (.int p4), .val (.int p5), .val (.int (Int32.ofNat nn)), .val (.int c0), .val (.int c1), .val (.int c2), .val (.int c3), .val (.ref b658), .val (.ref am708), .val (.int k0), .val (.int k1), .val (.int k2), .val (.int k3), .val (.int (1 : Int32)), .unset, .unset, .unset] [(.int (1 : Int32))])) _
                  refine own_back (fun t k => XS.istore Xj718.here hx rfl (hb hby at_194) rfl (l' := #[.val (.int p1), .val (.int p2), .val (.int p3), .val (.int p4), .val (.int p5), .val (.int (Int32.ofNat nn)), .val (.int c0), .val (.int c1), .val (.int c2), .val (.int c3), .val (.ref b658), .val (.ref am708), .val (.int k0), .val (.int k1), .val (.int k2), .val (.int k3), .val (.int (1 : Int32)), .val (.int (1 : Int32)), .unset, .unset]) rfl k) ?_
                  show OwnGo p e below (Tj718.setTop (mkF m 196 #[.val (.int p1), .val (.int p2), .val (.int p3), .val (.int p4), .val (.int p5), .val (.int (Int32.ofNat nn)), .val (.int c0), .val (.int c1), .val (.int c2), .val (.int c3), .val (.ref b658), .val (.ref am708), .val (.int k0), .val (.int k1), .val (.int k2), .val (.int k3), .val (.int (1 : Int32)), .val (.int (1 : Int32)), .unset, .unset] [])) _
                  refine own_back (fun t k => XS.iload Xj718.here hx rfl (hb hby at_196) rfl k) ?_
                  show OwnGo p e below (Tj718.setTop (mkF m 198 #[.val (.int p1), .val (.int p2), .val (.int p3), .val (.int p4), .val (.int p5), .val (.int (Int32.ofNat nn)), .val (.int c0), .val (.int c1), .val (.int c2), .val (.int c3), .val (.ref b658), .val (.ref am708), .val (.int k0), .val (.int k1), .val (.int k2), .val (.int k3), .val (.int (1 : Int32)), .val (.int (1 : Int32)), .unset, .unset] [(.int k0)])) _
                  refine own_back (fun t k => XS.ifYes Xj718.here hx rfl (pc0 := 198) (pc' := 204) rfl (hb hby at_198) rfl (Jvm.Free.XT.i0_eq_t hc186_773) (by decide) (by decide) k) ?_
                  show OwnGo p e below (Tj718.setTop (mkF m 204 #[.val (.int p1), .val (.int p2), .val (.int p3), .val (.int p4), .val (.int p5), .val (.int (Int32.ofNat nn)), .val (.int c0), .val (.int c1), .val (.int c2), .val (.int c3), .val (.ref b658), .val (.ref am708), .val (.int k0), .val (.int k1), .val (.int k2), .val (.int k3), .val (.int (1 : Int32)), .val (.int (1 : Int32)), .unset, .unset] [])) _
                  refine own_back (fun t k => XS.iload Xj718.here hx rfl (hb hby at_204) rfl k) ?_
                  show OwnGo p e below (Tj718.setTop (mkF m 206 #[.val (.int p1), .val (.int p2), .val (.int p3), .val (.int p4), .val (.int p5), .val (.int (Int32.ofNat nn)), .val (.int c0), .val (.int c1), .val (.int c2), .val (.int c3), .val (.ref b658), .val (.ref am708), .val (.int k0), .val (.int k1), .val (.int k2), .val (.int k3), .val (.int (1 : Int32)), .val (.int (1 : Int32)), .unset, .unset] [(.int k1)])) _
                  refine own_back (fun t k => XS.ifNo Xj718.here hx rfl (hb hby at_206) rfl (Jvm.Free.XT.i0_eq_f hc178_771) k) ?_
                  show OwnGo p e below (Tj718.setTop (mkF m 209 #[.val (.int p1), .val (.int p2), .val (.int p3), .val (.int p4), .val (.int p5), .val (.int (Int32.ofNat nn)), .val (.int c0), .val (.int c1), .val (.int c2), .val (.int c3), .val (.ref b658), .val (.ref am708), .val (.int k0), .val (.int k1), .val (.int k2), .val (.int k3), .val (.int (1 : Int32)), .val (.int (1 : Int32)), .unset, .unset] [])) _
                  refine own_back (fun t k => XS.iconst Xj718.here hx rfl (hb hby at_209) k) ?_
                  show OwnGo p e below (Tj718.setTop (mkF m 210 #[.val (.int p1), .val (.int p2), .val (.int p3), .val (.int p4), .val (.int p5), .val (.int (Int32.ofNat nn)), .val (.int c0), .val (.int c1), .val (.int c2), .val (.int c3), .val (.ref b658), .val (.ref am708), .val (.int k0), .val (.int k1), .val (.int k2), .val (.int k3), .val (.int (1 : Int32)), .val (.int (1 : Int32)), .unset, .unset] [(.int (2 : Int32))])) _
                  refine own_back (fun t k => XS.istore Xj718.here hx rfl (hb hby at_210) rfl (l' := #[.val (.int p1), .val (.int p2), .val (.int p3), .val (.int p4), .val (.int p5), .val (.int (Int32.ofNat nn)), .val (.int c0), .val (.int c1), .val (.int c2), .val (.int c3), .val (.ref b658), .val (.ref am708), .val (.int k0), .val (.int k1), .val (.int k2), .val (.int k3), .val (.int (1 : Int32)), .val (.int (2 : Int32)), .unset, .unset]) rfl k) ?_
                  show OwnGo p e below (Tj718.setTop (mkF m 212 #[.val (.int p1), .val (.int p2), .val (.int p3), .val (.int p4), .val (.int p5), .val (.int (Int32.ofNat nn)), .val (.int c0), .val (.int c1), .val (.int c2), .val (.int c3), .val (.ref b658), .val (.ref am708), .val (.int k0), .val (.int k1), .val (.int k2), .val (.int k3), .val (.int (1 : Int32)), .val (.int (2 : Int32)), .unset, .unset] [])) _
                  refine own_back (fun t k => XS.iload Xj718.here hx rfl (hb hby at_212) rfl k) ?_
                  show OwnGo p e below (Tj718.setTop (mkF m 214 #[.val (.int p1), .val (.int p2), .val (.int p3), .val (.int p4), .val (.int p5), .val (.int (Int32.ofNat nn)), .val (.int c0), .val (.int c1), .val (.int c2), .val (.int c3), .val (.ref b658), .val (.ref am708), .val (.int k0), .val (.int k1), .val (.int k2), .val (.int k3), .val (.int (1 : Int32)), .val (.int (2 : Int32)), .unset, .unset] [(.int k2)])) _
                  refine own_back (fun t k => XS.ifYes Xj718.here hx rfl (pc0 := 214) (pc' := 220) rfl (hb hby at_214) rfl (Jvm.Free.XT.i0_eq_t hc170_770) (by decide) (by decide) k) ?_
                  show OwnGo p e below (Tj718.setTop (mkF m 220 #[.val (.int p1), .val (.int p2), .val (.int p3), .val (.int p4), .val (.int p5), .val (.int (Int32.ofNat nn)), .val (.int c0), .val (.int c1), .val (.int c2), .val (.int c3), .val (.ref b658), .val (.ref am708), .val (.int k0), .val (.int k1), .val (.int k2), .val (.int k3), .val (.int (1 : Int32)), .val (.int (2 : Int32)), .unset, .unset] [])) _
                  refine own_back (fun t k => XS.iload Xj718.here hx rfl (hb hby at_220) rfl k) ?_
                  show OwnGo p e below (Tj718.setTop (mkF m 222 #[.val (.int p1), .val (.int p2), .val (.int p3), .val (.int p4), .val (.int p5), .val (.int (Int32.ofNat nn)), .val (.int c0), .val (.int c1), .val (.int c2), .val (.int c3), .val (.ref b658), .val (.ref am708), .val (.int k0), .val (.int k1), .val (.int k2), .val (.int k3), .val (.int (1 : Int32)), .val (.int (2 : Int32)), .unset, .unset] [(.int k3)])) _
                  refine own_back (fun t k => XS.ifNo Xj718.here hx rfl (hb hby at_222) rfl (Jvm.Free.XT.i0_eq_f hc162_762) k) ?_
                  show OwnGo p e below (Tj718.setTop (mkF m 225 #[.val (.int p1), .val (.int p2), .val (.int p3), .val (.int p4), .val (.int p5), .val (.int (Int32.ofNat nn)), .val (.int c0), .val (.int c1), .val (.int c2), .val (.int c3), .val (.ref b658), .val (.ref am708), .val (.int k0), .val (.int k1), .val (.int k2), .val (.int k3), .val (.int (1 : Int32)), .val (.int (2 : Int32)), .unset, .unset] [])) _
                  refine own_back (fun t k => XS.iconst Xj718.here hx rfl (hb hby at_225) k) ?_
                  show OwnGo p e below (Tj718.setTop (mkF m 226 #[.val (.int p1), .val (.int p2), .val (.int p3), .val (.int p4), .val (.int p5), .val (.int (Int32.ofNat nn)), .val (.int c0), .val (.int c1), .val (.int c2), .val (.int c3), .val (.ref b658), .val (.ref am708), .val (.int k0), .val (.int k1), .val (.int k2), .val (.int k3), .val (.int (1 : Int32)), .val (.int (2 : Int32)), .unset, .unset] [(.int (4 : Int32))])) _
                  refine own_back (fun t k => XS.istore Xj718.here hx rfl (hb hby at_226) rfl (l' := #[.val (.int p1), .val (.int p2), .val (.int p3), .val (.int p4), .val (.int p5), .val (.int (Int32.ofNat nn)), .val (.int c0), .val (.int c1), .val (.int c2), .val (.int c3), .val (.ref b658), .val (.ref am708), .val (.int k0), .val (.int k1), .val (.int k2), .val (.int k3), .val (.int (1 : Int32)), .val (.int (4 : Int32)), .unset, .unset]) rfl k) ?_
                  show OwnGo p e below (Tj718.setTop (mkF m 228 #[.val (.int p1), .val (.int p2), .val (.int p3), .val (.int p4), .val (.int p5), .val (.int (Int32.ofNat nn)), .val (.int c0), .val (.int c1), .val (.int c2), .val (.int c3), .val (.ref b658), .val (.ref am708), .val (.int k0), .val (.int k1), .val (.int k2), .val (.int k3), .val (.int (1 : Int32)), .val (.int (4 : Int32)), .unset, .unset] [])) _
                  have g0 := own_k0 hk0 hc186_773
                  have g1 := own_k1 hk1 hc178_771
                  have g2 := own_k0 hk2 hc170_770
                  have g3 := own_k1 hk3 hc162_762
                  have hl0 := g3.1
                  exact tl228_719 _ _ 1 4 ⟨_, _, _, Xj718, ej718, hSj718, hkj718, hZj718, hownj718, CRj718, Oj718, KPj718, Zj718, Nj718⟩ hs718_0 hs718_1 (fun q hq => by have hq4 : q < nn := (by omega); rw [own_at c0 c1 c2 c3 r0 r1 r2 r3 hn (by omega)]; rcases own_lt4 q (by omega) with rfl | rfl | rfl | rfl <;> first | omega | exact g0 (by omega) | exact g2 (by omega)) (fun hq => by rw [own_at c0 c1 c2 c3 r0 r1 r2 r3 hn (by omega)]; exact g1.2) (fun q hq hq2 => by rw [own_at c0 c1 c2 c3 r0 r1 r2 r3 hn (by omega)]; rcases own_lt4 q (by omega) with rfl | rfl | rfl | rfl <;> first | omega | exact g0 (by omega) | exact g2 (by omega)) (fun hq => by rw [own_at c0 c1 c2 c3 r0 r1 r2 r3 hn (by omega)]; exact g3.2) (by omega) (by omega)
                · refine own_back (fun t k => XS.ifNo Xj718.here hx rfl (hb hby at_186) rfl (Jvm.Free.XT.i0_eq_f hc186_773) k) ?_
                  show OwnGo p e below (Tj718.setTop (mkF m 189 #[.val (.int p1), .val (.int p2), .val (.int p3), .val (.int p4), .val (.int p5), .val (.int (Int32.ofNat nn)), .val (.int c0), .val (.int c1), .val (.int c2), .val (.int c3), .val (.ref b658), .val (.ref am708), .val (.int k0), .val (.int k1), .val (.int k2), .val (.int k3), .val (.int (1 : Int32)), .unset, .unset, .unset] [])) _
                  refine own_back (fun t k => XS.iconst Xj718.here hx rfl (hb hby at_189) k) ?_
                  show OwnGo p e below (Tj718.setTop (mkF m 190 #[.val (.int p1), .val (.int p2), .val (.int p3), .val (.int p4), .val (.int p5), .val (.int (Int32.ofNat nn)), .val (.int c0), .val (.int c1), .val (.int c2), .val (.int c3), .val (.ref b658), .val (.ref am708), .val (.int k0), .val (.int k1), .val (.int k2), .val (.int k3), .val (.int (1 : Int32)), .unset, .unset, .unset] [(.int (0 : Int32))])) _
                  refine own_back (fun t k => XS.istore Xj718.here hx rfl (hb hby at_190) rfl (l' := #[.val (.int p1), .val (.int p2), .val (.int p3), .val (.int p4), .val (.int p5), .val (.int (Int32.ofNat nn)), .val (.int c0), .val (.int c1), .val (.int c2), .val (.int c3), .val (.ref b658), .val (.ref am708), .val (.int k0), .val (.int k1), .val (.int k2), .val (.int k3), .val (.int (0 : Int32)), .unset, .unset, .unset]) rfl k) ?_
                  show OwnGo p e below (Tj718.setTop (mkF m 192 #[.val (.int p1), .val (.int p2), .val (.int p3), .val (.int p4), .val (.int p5), .val (.int (Int32.ofNat nn)), .val (.int c0), .val (.int c1), .val (.int c2), .val (.int c3), .val (.ref b658), .val (.ref am708), .val (.int k0), .val (.int k1), .val (.int k2), .val (.int k3), .val (.int (0 : Int32)), .unset, .unset, .unset] [])) _
                  refine own_back (fun t k => XS.iload Xj718.here hx rfl (hb hby at_192) rfl k) ?_
                  show OwnGo p e below (Tj718.setTop (mkF m 194 #[.val (.int p1), .val (.int p2), .val (.int p3), .val (.int p4), .val (.int p5), .val (.int (Int32.ofNat nn)), .val (.int c0), .val (.int c1), .val (.int c2), .val (.int c3), .val (.ref b658), .val (.ref am708), .val (.int k0), .val (.int k1), .val (.int k2), .val (.int k3), .val (.int (0 : Int32)), .unset, .unset, .unset] [(.int (0 : Int32))])) _
                  refine own_back (fun t k => XS.istore Xj718.here hx rfl (hb hby at_194) rfl (l' := #[.val (.int p1), .val (.int p2), .val (.int p3), .val (.int p4), .val (.int p5), .val (.int (Int32.ofNat nn)), .val (.int c0), .val (.int c1), .val (.int c2), .val (.int c3), .val (.ref b658), .val (.ref am708), .val (.int k0), .val (.int k1), .val (.int k2), .val (.int k3), .val (.int (0 : Int32)), .val (.int (0 : Int32)), .unset, .unset]) rfl k) ?_
                  show OwnGo p e below (Tj718.setTop (mkF m 196 #[.val (.int p1), .val (.int p2), .val (.int p3), .val (.int p4), .val (.int p5), .val (.int (Int32.ofNat nn)), .val (.int c0), .val (.int c1), .val (.int c2), .val (.int c3), .val (.ref b658), .val (.ref am708), .val (.int k0), .val (.int k1), .val (.int k2), .val (.int k3), .val (.int (0 : Int32)), .val (.int (0 : Int32)), .unset, .unset] [])) _
                  refine own_back (fun t k => XS.iload Xj718.here hx rfl (hb hby at_196) rfl k) ?_
                  show OwnGo p e below (Tj718.setTop (mkF m 198 #[.val (.int p1), .val (.int p2), .val (.int p3), .val (.int p4), .val (.int p5), .val (.int (Int32.ofNat nn)), .val (.int c0), .val (.int c1), .val (.int c2), .val (.int c3), .val (.ref b658), .val (.ref am708), .val (.int k0), .val (.int k1), .val (.int k2), .val (.int k3), .val (.int (0 : Int32)), .val (.int (0 : Int32)), .unset, .unset] [(.int k0)])) _
                  refine own_back (fun t k => XS.ifNo Xj718.here hx rfl (hb hby at_198) rfl (Jvm.Free.XT.i0_eq_f hc186_773) k) ?_
                  show OwnGo p e below (Tj718.setTop (mkF m 201 #[.val (.int p1), .val (.int p2), .val (.int p3), .val (.int p4), .val (.int p5), .val (.int (Int32.ofNat nn)), .val (.int c0), .val (.int c1), .val (.int c2), .val (.int c3), .val (.ref b658), .val (.ref am708), .val (.int k0), .val (.int k1), .val (.int k2), .val (.int k3), .val (.int (0 : Int32)), .val (.int (0 : Int32)), .unset, .unset] [])) _
                  refine own_back (fun t k => XS.iconst Xj718.here hx rfl (hb hby at_201) k) ?_
                  show OwnGo p e below (Tj718.setTop (mkF m 202 #[.val (.int p1), .val (.int p2), .val (.int p3), .val (.int p4), .val (.int p5), .val (.int (Int32.ofNat nn)), .val (.int c0), .val (.int c1), .val (.int c2), .val (.int c3), .val (.ref b658), .val (.ref am708), .val (.int k0), .val (.int k1), .val (.int k2), .val (.int k3), .val (.int (0 : Int32)), .val (.int (0 : Int32)), .unset, .unset] [(.int (1 : Int32))])) _
                  refine own_back (fun t k => XS.istore Xj718.here hx rfl (hb hby at_202) rfl (l' := #[.val (.int p1), .val (.int p2), .val (.int p3), .val (.int p4), .val (.int p5), .val (.int (Int32.ofNat nn)), .val (.int c0), .val (.int c1), .val (.int c2), .val (.int c3), .val (.ref b658), .val (.ref am708), .val (.int k0), .val (.int k1), .val (.int k2), .val (.int k3), .val (.int (0 : Int32)), .val (.int (1 : Int32)), .unset, .unset]) rfl k) ?_
                  show OwnGo p e below (Tj718.setTop (mkF m 204 #[.val (.int p1), .val (.int p2), .val (.int p3), .val (.int p4), .val (.int p5), .val (.int (Int32.ofNat nn)), .val (.int c0), .val (.int c1), .val (.int c2), .val (.int c3), .val (.ref b658), .val (.ref am708), .val (.int k0), .val (.int k1), .val (.int k2), .val (.int k3), .val (.int (0 : Int32)), .val (.int (1 : Int32)), .unset, .unset] [])) _
                  refine own_back (fun t k => XS.iload Xj718.here hx rfl (hb hby at_204) rfl k) ?_
                  show OwnGo p e below (Tj718.setTop (mkF m 206 #[.val (.int p1), .val (.int p2), .val (.int p3), .val (.int p4), .val (.int p5), .val (.int (Int32.ofNat nn)), .val (.int c0), .val (.int c1), .val (.int c2), .val (.int c3), .val (.ref b658), .val (.ref am708), .val (.int k0), .val (.int k1), .val (.int k2), .val (.int k3), .val (.int (0 : Int32)), .val (.int (1 : Int32)), .unset, .unset] [(.int k1)])) _
                  refine own_back (fun t k => XS.ifNo Xj718.here hx rfl (hb hby at_206) rfl (Jvm.Free.XT.i0_eq_f hc178_771) k) ?_
                  show OwnGo p e below (Tj718.setTop (mkF m 209 #[.val (.int p1), .val (.int p2), .val (.int p3), .val (.int p4), .val (.int p5), .val (.int (Int32.ofNat nn)), .val (.int c0), .val (.int c1), .val (.int c2), .val (.int c3), .val (.ref b658), .val (.ref am708), .val (.int k0), .val (.int k1), .val (.int k2), .val (.int k3), .val (.int (0 : Int32)), .val (.int (1 : Int32)), .unset, .unset] [])) _
                  refine own_back (fun t k => XS.iconst Xj718.here hx rfl (hb hby at_209) k) ?_
                  show OwnGo p e below (Tj718.setTop (mkF m 210 #[.val (.int p1), .val (.int p2), .val (.int p3), .val (.int p4), .val (.int p5), .val (.int (Int32.ofNat nn)), .val (.int c0), .val (.int c1), .val (.int c2), .val (.int c3), .val (.ref b658), .val (.ref am708), .val (.int k0), .val (.int k1), .val (.int k2), .val (.int k3), .val (.int (0 : Int32)), .val (.int (1 : Int32)), .unset, .unset] [(.int (2 : Int32))])) _
                  refine own_back (fun t k => XS.istore Xj718.here hx rfl (hb hby at_210) rfl (l' := #[.val (.int p1), .val (.int p2), .val (.int p3), .val (.int p4), .val (.int p5), .val (.int (Int32.ofNat nn)), .val (.int c0), .val (.int c1), .val (.int c2), .val (.int c3), .val (.ref b658), .val (.ref am708), .val (.int k0), .val (.int k1), .val (.int k2), .val (.int k3), .val (.int (0 : Int32)), .val (.int (2 : Int32)), .unset, .unset]) rfl k) ?_
                  show OwnGo p e below (Tj718.setTop (mkF m 212 #[.val (.int p1), .val (.int p2), .val (.int p3), .val (.int p4), .val (.int p5), .val (.int (Int32.ofNat nn)), .val (.int c0), .val (.int c1), .val (.int c2), .val (.int c3), .val (.ref b658), .val (.ref am708), .val (.int k0), .val (.int k1), .val (.int k2), .val (.int k3), .val (.int (0 : Int32)), .val (.int (2 : Int32)), .unset, .unset] [])) _
                  refine own_back (fun t k => XS.iload Xj718.here hx rfl (hb hby at_212) rfl k) ?_
                  show OwnGo p e below (Tj718.setTop (mkF m 214 #[.val (.int p1), .val (.int p2), .val (.int p3), .val (.int p4), .val (.int p5), .val (.int (Int32.ofNat nn)), .val (.int c0), .val (.int c1), .val (.int c2), .val (.int c3), .val (.ref b658), .val (.ref am708), .val (.int k0), .val (.int k1), .val (.int k2), .val (.int k3), .val (.int (0 : Int32)), .val (.int (2 : Int32)), .unset, .unset] [(.int k2)])) _
                  refine own_back (fun t k => XS.ifYes Xj718.here hx rfl (pc0 := 214) (pc' := 220) rfl (hb hby at_214) rfl (Jvm.Free.XT.i0_eq_t hc170_770) (by decide) (by decide) k) ?_
                  show OwnGo p e below (Tj718.setTop (mkF m 220 #[.val (.int p1), .val (.int p2), .val (.int p3), .val (.int p4), .val (.int p5), .val (.int (Int32.ofNat nn)), .val (.int c0), .val (.int c1), .val (.int c2), .val (.int c3), .val (.ref b658), .val (.ref am708), .val (.int k0), .val (.int k1), .val (.int k2), .val (.int k3), .val (.int (0 : Int32)), .val (.int (2 : Int32)), .unset, .unset] [])) _
                  refine own_back (fun t k => XS.iload Xj718.here hx rfl (hb hby at_220) rfl k) ?_
                  show OwnGo p e below (Tj718.setTop (mkF m 222 #[.val (.int p1), .val (.int p2), .val (.int p3), .val (.int p4), .val (.int p5), .val (.int (Int32.ofNat nn)), .val (.int c0), .val (.int c1), .val (.int c2), .val (.int c3), .val (.ref b658), .val (.ref am708), .val (.int k0), .val (.int k1), .val (.int k2), .val (.int k3), .val (.int (0 : Int32)), .val (.int (2 : Int32)), .unset, .unset] [(.int k3)])) _
                  refine own_back (fun t k => XS.ifNo Xj718.here hx rfl (hb hby at_222) rfl (Jvm.Free.XT.i0_eq_f hc162_762) k) ?_
                  show OwnGo p e below (Tj718.setTop (mkF m 225 #[.val (.int p1), .val (.int p2), .val (.int p3), .val (.int p4), .val (.int p5), .val (.int (Int32.ofNat nn)), .val (.int c0), .val (.int c1), .val (.int c2), .val (.int c3), .val (.ref b658), .val (.ref am708), .val (.int k0), .val (.int k1), .val (.int k2), .val (.int k3), .val (.int (0 : Int32)), .val (.int (2 : Int32)), .unset, .unset] [])) _
                  refine own_back (fun t k => XS.iconst Xj718.here hx rfl (hb hby at_225) k) ?_
                  show OwnGo p e below (Tj718.setTop (mkF m 226 #[.val (.int p1), .val (.int p2), .val (.int p3), .val (.int p4), .val (.int p5), .val (.int (Int32.ofNat nn)), .val (.int c0), .val (.int c1), .val (.int c2), .val (.int c3), .val (.ref b658), .val (.ref am708), .val (.int k0), .val (.int k1), .val (.int k2), .val (.int k3), .val (.int (0 : Int32)), .val (.int (2 : Int32)), .unset, .unset] [(.int (4 : Int32))])) _
                  refine own_back (fun t k => XS.istore Xj718.here hx rfl (hb hby at_226) rfl (l' := #[.val (.int p1), .val (.int p2), .val (.int p3), .val (.int p4), .val (.int p5), .val (.int (Int32.ofNat nn)), .val (.int c0), .val (.int c1), .val (.int c2), .val (.int c3), .val (.ref b658), .val (.ref am708), .val (.int k0), .val (.int k1), .val (.int k2), .val (.int k3), .val (.int (0 : Int32)), .val (.int (4 : Int32)), .unset, .unset]) rfl k) ?_
                  show OwnGo p e below (Tj718.setTop (mkF m 228 #[.val (.int p1), .val (.int p2), .val (.int p3), .val (.int p4), .val (.int p5), .val (.int (Int32.ofNat nn)), .val (.int c0), .val (.int c1), .val (.int c2), .val (.int c3), .val (.ref b658), .val (.ref am708), .val (.int k0), .val (.int k1), .val (.int k2), .val (.int k3), .val (.int (0 : Int32)), .val (.int (4 : Int32)), .unset, .unset] [])) _
                  have g0 := own_k1 hk0 hc186_773
                  have g1 := own_k1 hk1 hc178_771
                  have g2 := own_k0 hk2 hc170_770
                  have g3 := own_k1 hk3 hc162_762
                  have hl0 := g3.1
                  exact tl228_719 _ _ 0 4 ⟨_, _, _, Xj718, ej718, hSj718, hkj718, hZj718, hownj718, CRj718, Oj718, KPj718, Zj718, Nj718⟩ hs718_0 hs718_1 (fun q hq => by have hq4 : q < nn := (by omega); rw [own_at c0 c1 c2 c3 r0 r1 r2 r3 hn (by omega)]; rcases own_lt4 q (by omega) with rfl | rfl | rfl | rfl <;> first | omega | exact g2 (by omega)) (fun hq => by rw [own_at c0 c1 c2 c3 r0 r1 r2 r3 hn (by omega)]; exact g0.2) (fun q hq hq2 => by rw [own_at c0 c1 c2 c3 r0 r1 r2 r3 hn (by omega)]; rcases own_lt4 q (by omega) with rfl | rfl | rfl | rfl <;> first | omega | exact g2 (by omega)) (fun hq => by rw [own_at c0 c1 c2 c3 r0 r1 r2 r3 hn (by omega)]; exact g3.2) (by omega) (by omega)
            · refine own_back (fun t k => XS.ifNo Xj718.here hx rfl (hb hby at_170) rfl (Jvm.Free.XT.i0_eq_f hc170_770) k) ?_
              show OwnGo p e below (Tj718.setTop (mkF m 173 #[.val (.int p1), .val (.int p2), .val (.int p3), .val (.int p4), .val (.int p5), .val (.int (Int32.ofNat nn)), .val (.int c0), .val (.int c1), .val (.int c2), .val (.int c3), .val (.ref b658), .val (.ref am708), .val (.int k0), .val (.int k1), .val (.int k2), .val (.int k3), .val (.int (3 : Int32)), .unset, .unset, .unset] [])) _
              refine own_back (fun t k => XS.iconst Xj718.here hx rfl (hb hby at_173) k) ?_
              show OwnGo p e below (Tj718.setTop (mkF m 174 #[.val (.int p1), .val (.int p2), .val (.int p3), .val (.int p4), .val (.int p5), .val (.int (Int32.ofNat nn)), .val (.int c0), .val (.int c1), .val (.int c2), .val (.int c3), .val (.ref b658), .val (.ref am708), .val (.int k0), .val (.int k1), .val (.int k2), .val (.int k3), .val (.int (3 : Int32)), .unset, .unset, .unset] [(.int (2 : Int32))])) _
              refine own_back (fun t k => XS.istore Xj718.here hx rfl (hb hby at_174) rfl (l' := #[.val (.int p1), .val (.int p2), .val (.int p3), .val (.int p4), .val (.int p5), .val (.int (Int32.ofNat nn)), .val (.int c0), .val (.int c1), .val (.int c2), .val (.int c3), .val (.ref b658), .val (.ref am708), .val (.int k0), .val (.int k1), .val (.int k2), .val (.int k3), .val (.int (2 : Int32)), .unset, .unset, .unset]) rfl k) ?_
              show OwnGo p e below (Tj718.setTop (mkF m 176 #[.val (.int p1), .val (.int p2), .val (.int p3), .val (.int p4), .val (.int p5), .val (.int (Int32.ofNat nn)), .val (.int c0), .val (.int c1), .val (.int c2), .val (.int c3), .val (.ref b658), .val (.ref am708), .val (.int k0), .val (.int k1), .val (.int k2), .val (.int k3), .val (.int (2 : Int32)), .unset, .unset, .unset] [])) _
              refine own_back (fun t k => XS.iload Xj718.here hx rfl (hb hby at_176) rfl k) ?_
              show OwnGo p e below (Tj718.setTop (mkF m 178 #[.val (.int p1), .val (.int p2), .val (.int p3), .val (.int p4), .val (.int p5), .val (.int (Int32.ofNat nn)), .val (.int c0), .val (.int c1), .val (.int c2), .val (.int c3), .val (.ref b658), .val (.ref am708), .val (.int k0), .val (.int k1), .val (.int k2), .val (.int k3), .val (.int (2 : Int32)), .unset, .unset, .unset] [(.int k1)])) _
              by_cases hc178_774 : k1 = (0 : Int32)
              · refine own_back (fun t k => XS.ifYes Xj718.here hx rfl (pc0 := 178) (pc' := 184) rfl (hb hby at_178) rfl (Jvm.Free.XT.i0_eq_t hc178_774) (by decide) (by decide) k) ?_
                show OwnGo p e below (Tj718.setTop (mkF m 184 #[.val (.int p1), .val (.int p2), .val (.int p3), .val (.int p4), .val (.int p5), .val (.int (Int32.ofNat nn)), .val (.int c0), .val (.int c1), .val (.int c2), .val (.int c3), .val (.ref b658), .val (.ref am708), .val (.int k0), .val (.int k1), .val (.int k2), .val (.int k3), .val (.int (2 : Int32)), .unset, .unset, .unset] [])) _
                refine own_back (fun t k => XS.iload Xj718.here hx rfl (hb hby at_184) rfl k) ?_
                show OwnGo p e below (Tj718.setTop (mkF m 186 #[.val (.int p1), .val (.int p2), .val (.int p3), .val (.int p4), .val (.int p5), .val (.int (Int32.ofNat nn)), .val (.int c0), .val (.int c1), .val (.int c2), .val (.int c3), .val (.ref b658), .val (.ref am708), .val (.int k0), .val (.int k1), .val (.int k2), .val (.int k3), .val (.int (2 : Int32)), .unset, .unset, .unset] [(.int k0)])) _
                by_cases hc186_775 : k0 = (0 : Int32)
                · refine own_back (fun t k => XS.ifYes Xj718.here hx rfl (pc0 := 186) (pc' := 192) rfl (hb hby at_186) rfl (Jvm.Free.XT.i0_eq_t hc186_775) (by decide) (by decide) k) ?_
                  show OwnGo p e below (Tj718.setTop (mkF m 192 #[.val (.int p1), .val (.int p2), .val (.int p3), .val (.int p4), .val (.int p5), .val (.int (Int32.ofNat nn)), .val (.int c0), .val (.int c1), .val (.int c2), .val (.int c3), .val (.ref b658), .val (.ref am708), .val (.int k0), .val (.int k1), .val (.int k2), .val (.int k3), .val (.int (2 : Int32)), .unset, .unset, .unset] [])) _
                  refine own_back (fun t k => XS.iload Xj718.here hx rfl (hb hby at_192) rfl k) ?_
                  show OwnGo p e below (Tj718.setTop (mkF m 194 #[.val (.int p1), .val (.int p2), .val (.int p3), .val (.int p4), .val (.int p5), .val (.int (Int32.ofNat nn)), .val (.int c0), .val (.int c1), .val (.int c2), .val (.int c3), .val (.ref b658), .val (.ref am708), .val (.int k0), .val (.int k1), .val (.int k2), .val (.int k3), .val (.int (2 : Int32)), .unset, .unset, .unset] [(.int (2 : Int32))])) _
                  refine own_back (fun t k => XS.istore Xj718.here hx rfl (hb hby at_194) rfl (l' := #[.val (.int p1), .val (.int p2), .val (.int p3), .val (.int p4), .val (.int p5), .val (.int (Int32.ofNat nn)), .val (.int c0), .val (.int c1), .val (.int c2), .val (.int c3), .val (.ref b658), .val (.ref am708), .val (.int k0), .val (.int k1), .val (.int k2), .val (.int k3), .val (.int (2 : Int32)), .val (.int (2 : Int32)), .unset, .unset]) rfl k) ?_
                  show OwnGo p e below (Tj718.setTop (mkF m 196 #[.val (.int p1), .val (.int p2), .val (.int p3), .val (.int p4), .val (.int p5), .val (.int (Int32.ofNat nn)), .val (.int c0), .val (.int c1), .val (.int c2), .val (.int c3), .val (.ref b658), .val (.ref am708), .val (.int k0), .val (.int k1), .val (.int k2), .val (.int k3), .val (.int (2 : Int32)), .val (.int (2 : Int32)), .unset, .unset] [])) _
                  refine own_back (fun t k => XS.iload Xj718.here hx rfl (hb hby at_196) rfl k) ?_
                  show OwnGo p e below (Tj718.setTop (mkF m 198 #[.val (.int p1), .val (.int p2), .val (.int p3), .val (.int p4), .val (.int p5), .val (.int (Int32.ofNat nn)), .val (.int c0), .val (.int c1), .val (.int c2), .val (.int c3), .val (.ref b658), .val (.ref am708), .val (.int k0), .val (.int k1), .val (.int k2), .val (.int k3), .val (.int (2 : Int32)), .val (.int (2 : Int32)), .unset, .unset] [(.int k0)])) _
                  refine own_back (fun t k => XS.ifYes Xj718.here hx rfl (pc0 := 198) (pc' := 204) rfl (hb hby at_198) rfl (Jvm.Free.XT.i0_eq_t hc186_775) (by decide) (by decide) k) ?_
                  show OwnGo p e below (Tj718.setTop (mkF m 204 #[.val (.int p1), .val (.int p2), .val (.int p3), .val (.int p4), .val (.int p5), .val (.int (Int32.ofNat nn)), .val (.int c0), .val (.int c1), .val (.int c2), .val (.int c3), .val (.ref b658), .val (.ref am708), .val (.int k0), .val (.int k1), .val (.int k2), .val (.int k3), .val (.int (2 : Int32)), .val (.int (2 : Int32)), .unset, .unset] [])) _
                  refine own_back (fun t k => XS.iload Xj718.here hx rfl (hb hby at_204) rfl k) ?_
                  show OwnGo p e below (Tj718.setTop (mkF m 206 #[.val (.int p1), .val (.int p2), .val (.int p3), .val (.int p4), .val (.int p5), .val (.int (Int32.ofNat nn)), .val (.int c0), .val (.int c1), .val (.int c2), .val (.int c3), .val (.ref b658), .val (.ref am708), .val (.int k0), .val (.int k1), .val (.int k2), .val (.int k3), .val (.int (2 : Int32)), .val (.int (2 : Int32)), .unset, .unset] [(.int k1)])) _
                  refine own_back (fun t k => XS.ifYes Xj718.here hx rfl (pc0 := 206) (pc' := 212) rfl (hb hby at_206) rfl (Jvm.Free.XT.i0_eq_t hc178_774) (by decide) (by decide) k) ?_
                  show OwnGo p e below (Tj718.setTop (mkF m 212 #[.val (.int p1), .val (.int p2), .val (.int p3), .val (.int p4), .val (.int p5), .val (.int (Int32.ofNat nn)), .val (.int c0), .val (.int c1), .val (.int c2), .val (.int c3), .val (.ref b658), .val (.ref am708), .val (.int k0), .val (.int k1), .val (.int k2), .val (.int k3), .val (.int (2 : Int32)), .val (.int (2 : Int32)), .unset, .unset] [])) _
                  refine own_back (fun t k => XS.iload Xj718.here hx rfl (hb hby at_212) rfl k) ?_
                  show OwnGo p e below (Tj718.setTop (mkF m 214 #[.val (.int p1), .val (.int p2), .val (.int p3), .val (.int p4), .val (.int p5), .val (.int (Int32.ofNat nn)), .val (.int c0), .val (.int c1), .val (.int c2), .val (.int c3), .val (.ref b658), .val (.ref am708), .val (.int k0), .val (.int k1), .val (.int k2), .val (.int k3), .val (.int (2 : Int32)), .val (.int (2 : Int32)), .unset, .unset] [(.int k2)])) _
                  refine own_back (fun t k => XS.ifNo Xj718.here hx rfl (hb hby at_214) rfl (Jvm.Free.XT.i0_eq_f hc170_770) k) ?_
                  show OwnGo p e below (Tj718.setTop (mkF m 217 #[.val (.int p1), .val (.int p2), .val (.int p3), .val (.int p4), .val (.int p5), .val (.int (Int32.ofNat nn)), .val (.int c0), .val (.int c1), .val (.int c2), .val (.int c3), .val (.ref b658), .val (.ref am708), .val (.int k0), .val (.int k1), .val (.int k2), .val (.int k3), .val (.int (2 : Int32)), .val (.int (2 : Int32)), .unset, .unset] [])) _
                  refine own_back (fun t k => XS.iconst Xj718.here hx rfl (hb hby at_217) k) ?_
                  show OwnGo p e below (Tj718.setTop (mkF m 218 #[.val (.int p1), .val (.int p2), .val (.int p3), .val (.int p4), .val (.int p5), .val (.int (Int32.ofNat nn)), .val (.int c0), .val (.int c1), .val (.int c2), .val (.int c3), .val (.ref b658), .val (.ref am708), .val (.int k0), .val (.int k1), .val (.int k2), .val (.int k3), .val (.int (2 : Int32)), .val (.int (2 : Int32)), .unset, .unset] [(.int (3 : Int32))])) _
                  refine own_back (fun t k => XS.istore Xj718.here hx rfl (hb hby at_218) rfl (l' := #[.val (.int p1), .val (.int p2), .val (.int p3), .val (.int p4), .val (.int p5), .val (.int (Int32.ofNat nn)), .val (.int c0), .val (.int c1), .val (.int c2), .val (.int c3), .val (.ref b658), .val (.ref am708), .val (.int k0), .val (.int k1), .val (.int k2), .val (.int k3), .val (.int (2 : Int32)), .val (.int (3 : Int32)), .unset, .unset]) rfl k) ?_
                  show OwnGo p e below (Tj718.setTop (mkF m 220 #[.val (.int p1), .val (.int p2), .val (.int p3), .val (.int p4), .val (.int p5), .val (.int (Int32.ofNat nn)), .val (.int c0), .val (.int c1), .val (.int c2), .val (.int c3), .val (.ref b658), .val (.ref am708), .val (.int k0), .val (.int k1), .val (.int k2), .val (.int k3), .val (.int (2 : Int32)), .val (.int (3 : Int32)), .unset, .unset] [])) _
                  refine own_back (fun t k => XS.iload Xj718.here hx rfl (hb hby at_220) rfl k) ?_
                  show OwnGo p e below (Tj718.setTop (mkF m 222 #[.val (.int p1), .val (.int p2), .val (.int p3), .val (.int p4), .val (.int p5), .val (.int (Int32.ofNat nn)), .val (.int c0), .val (.int c1), .val (.int c2), .val (.int c3), .val (.ref b658), .val (.ref am708), .val (.int k0), .val (.int k1), .val (.int k2), .val (.int k3), .val (.int (2 : Int32)), .val (.int (3 : Int32)), .unset, .unset] [(.int k3)])) _
                  refine own_back (fun t k => XS.ifNo Xj718.here hx rfl (hb hby at_222) rfl (Jvm.Free.XT.i0_eq_f hc162_762) k) ?_
                  show OwnGo p e below (Tj718.setTop (mkF m 225 #[.val (.int p1), .val (.int p2), .val (.int p3), .val (.int p4), .val (.int p5), .val (.int (Int32.ofNat nn)), .val (.int c0), .val (.int c1), .val (.int c2), .val (.int c3), .val (.ref b658), .val (.ref am708), .val (.int k0), .val (.int k1), .val (.int k2), .val (.int k3), .val (.int (2 : Int32)), .val (.int (3 : Int32)), .unset, .unset] [])) _
                  refine own_back (fun t k => XS.iconst Xj718.here hx rfl (hb hby at_225) k) ?_
                  show OwnGo p e below (Tj718.setTop (mkF m 226 #[.val (.int p1), .val (.int p2), .val (.int p3), .val (.int p4), .val (.int p5), .val (.int (Int32.ofNat nn)), .val (.int c0), .val (.int c1), .val (.int c2), .val (.int c3), .val (.ref b658), .val (.ref am708), .val (.int k0), .val (.int k1), .val (.int k2), .val (.int k3), .val (.int (2 : Int32)), .val (.int (3 : Int32)), .unset, .unset] [(.int (4 : Int32))])) _
                  refine own_back (fun t k => XS.istore Xj718.here hx rfl (hb hby at_226) rfl (l' := #[.val (.int p1), .val (.int p2), .val (.int p3), .val (.int p4), .val (.int p5), .val (.int (Int32.ofNat nn)), .val (.int c0), .val (.int c1), .val (.int c2), .val (.int c3), .val (.ref b658), .val (.ref am708), .val (.int k0), .val (.int k1), .val (.int k2), .val (.int k3), .val (.int (2 : Int32)), .val (.int (4 : Int32)), .unset, .unset]) rfl k) ?_
                  show OwnGo p e below (Tj718.setTop (mkF m 228 #[.val (.int p1), .val (.int p2), .val (.int p3), .val (.int p4), .val (.int p5), .val (.int (Int32.ofNat nn)), .val (.int c0), .val (.int c1), .val (.int c2), .val (.int c3), .val (.ref b658), .val (.ref am708), .val (.int k0), .val (.int k1), .val (.int k2), .val (.int k3), .val (.int (2 : Int32)), .val (.int (4 : Int32)), .unset, .unset] [])) _
                  have g0 := own_k0 hk0 hc186_775
                  have g1 := own_k0 hk1 hc178_774
                  have g2 := own_k1 hk2 hc170_770
                  have g3 := own_k1 hk3 hc162_762
                  have hl0 := g3.1
                  exact tl228_719 _ _ 2 4 ⟨_, _, _, Xj718, ej718, hSj718, hkj718, hZj718, hownj718, CRj718, Oj718, KPj718, Zj718, Nj718⟩ hs718_0 hs718_1 (fun q hq => by have hq4 : q < nn := (by omega); rw [own_at c0 c1 c2 c3 r0 r1 r2 r3 hn (by omega)]; rcases own_lt4 q (by omega) with rfl | rfl | rfl | rfl <;> first | omega | exact g0 (by omega) | exact g1 (by omega)) (fun hq => by rw [own_at c0 c1 c2 c3 r0 r1 r2 r3 hn (by omega)]; exact g2.2) (fun q hq hq2 => by rw [own_at c0 c1 c2 c3 r0 r1 r2 r3 hn (by omega)]; rcases own_lt4 q (by omega) with rfl | rfl | rfl | rfl <;> first | omega | exact g0 (by omega) | exact g1 (by omega)) (fun hq => by rw [own_at c0 c1 c2 c3 r0 r1 r2 r3 hn (by omega)]; exact g3.2) (by omega) (by omega)
                · refine own_back (fun t k => XS.ifNo Xj718.here hx rfl (hb hby at_186) rfl (Jvm.Free.XT.i0_eq_f hc186_775) k) ?_
                  show OwnGo p e below (Tj718.setTop (mkF m 189 #[.val (.int p1), .val (.int p2), .val (.int p3), .val (.int p4), .val (.int p5), .val (.int (Int32.ofNat nn)), .val (.int c0), .val (.int c1), .val (.int c2), .val (.int c3), .val (.ref b658), .val (.ref am708), .val (.int k0), .val (.int k1), .val (.int k2), .val (.int k3), .val (.int (2 : Int32)), .unset, .unset, .unset] [])) _
                  refine own_back (fun t k => XS.iconst Xj718.here hx rfl (hb hby at_189) k) ?_
                  show OwnGo p e below (Tj718.setTop (mkF m 190 #[.val (.int p1), .val (.int p2), .val (.int p3), .val (.int p4), .val (.int p5), .val (.int (Int32.ofNat nn)), .val (.int c0), .val (.int c1), .val (.int c2), .val (.int c3), .val (.ref b658), .val (.ref am708), .val (.int k0), .val (.int k1), .val (.int k2), .val (.int k3), .val (.int (2 : Int32)), .unset, .unset, .unset] [(.int (0 : Int32))])) _
                  refine own_back (fun t k => XS.istore Xj718.here hx rfl (hb hby at_190) rfl (l' := #[.val (.int p1), .val (.int p2), .val (.int p3), .val (.int p4), .val (.int p5), .val (.int (Int32.ofNat nn)), .val (.int c0), .val (.int c1), .val (.int c2), .val (.int c3), .val (.ref b658), .val (.ref am708), .val (.int k0), .val (.int k1), .val (.int k2), .val (.int k3), .val (.int (0 : Int32)), .unset, .unset, .unset]) rfl k) ?_
                  show OwnGo p e below (Tj718.setTop (mkF m 192 #[.val (.int p1), .val (.int p2), .val (.int p3), .val (.int p4), .val (.int p5), .val (.int (Int32.ofNat nn)), .val (.int c0), .val (.int c1), .val (.int c2), .val (.int c3), .val (.ref b658), .val (.ref am708), .val (.int k0), .val (.int k1), .val (.int k2), .val (.int k3), .val (.int (0 : Int32)), .unset, .unset, .unset] [])) _
                  refine own_back (fun t k => XS.iload Xj718.here hx rfl (hb hby at_192) rfl k) ?_
                  show OwnGo p e below (Tj718.setTop (mkF m 194 #[.val (.int p1), .val (.int p2), .val (.int p3), .val (.int p4), .val (.int p5), .val (.int (Int32.ofNat nn)), .val (.int c0), .val (.int c1), .val (.int c2), .val (.int c3), .val (.ref b658), .val (.ref am708), .val (.int k0), .val (.int k1), .val (.int k2), .val (.int k3), .val (.int (0 : Int32)), .unset, .unset, .unset] [(.int (0 : Int32))])) _
                  refine own_back (fun t k => XS.istore Xj718.here hx rfl (hb hby at_194) rfl (l' := #[.val (.int p1), .val (.int p2), .val (.int p3), .val (.int p4), .val (.int p5), .val (.int (Int32.ofNat nn)), .val (.int c0), .val (.int c1), .val (.int c2), .val (.int c3), .val (.ref b658), .val (.ref am708), .val (.int k0), .val (.int k1), .val (.int k2), .val (.int k3), .val (.int (0 : Int32)), .val (.int (0 : Int32)), .unset, .unset]) rfl k) ?_
                  show OwnGo p e below (Tj718.setTop (mkF m 196 #[.val (.int p1), .val (.int p2), .val (.int p3), .val (.int p4), .val (.int p5), .val (.int (Int32.ofNat nn)), .val (.int c0), .val (.int c1), .val (.int c2), .val (.int c3), .val (.ref b658), .val (.ref am708), .val (.int k0), .val (.int k1), .val (.int k2), .val (.int k3), .val (.int (0 : Int32)), .val (.int (0 : Int32)), .unset, .unset] [])) _
                  refine own_back (fun t k => XS.iload Xj718.here hx rfl (hb hby at_196) rfl k) ?_
                  show OwnGo p e below (Tj718.setTop (mkF m 198 #[.val (.int p1), .val (.int p2), .val (.int p3), .val (.int p4), .val (.int p5), .val (.int (Int32.ofNat nn)), .val (.int c0), .val (.int c1), .val (.int c2), .val (.int c3), .val (.ref b658), .val (.ref am708), .val (.int k0), .val (.int k1), .val (.int k2), .val (.int k3), .val (.int (0 : Int32)), .val (.int (0 : Int32)), .unset, .unset] [(.int k0)])) _
                  refine own_back (fun t k => XS.ifNo Xj718.here hx rfl (hb hby at_198) rfl (Jvm.Free.XT.i0_eq_f hc186_775) k) ?_
                  show OwnGo p e below (Tj718.setTop (mkF m 201 #[.val (.int p1), .val (.int p2), .val (.int p3), .val (.int p4), .val (.int p5), .val (.int (Int32.ofNat nn)), .val (.int c0), .val (.int c1), .val (.int c2), .val (.int c3), .val (.ref b658), .val (.ref am708), .val (.int k0), .val (.int k1), .val (.int k2), .val (.int k3), .val (.int (0 : Int32)), .val (.int (0 : Int32)), .unset, .unset] [])) _
                  refine own_back (fun t k => XS.iconst Xj718.here hx rfl (hb hby at_201) k) ?_
                  show OwnGo p e below (Tj718.setTop (mkF m 202 #[.val (.int p1), .val (.int p2), .val (.int p3), .val (.int p4), .val (.int p5), .val (.int (Int32.ofNat nn)), .val (.int c0), .val (.int c1), .val (.int c2), .val (.int c3), .val (.ref b658), .val (.ref am708), .val (.int k0), .val (.int k1), .val (.int k2), .val (.int k3), .val (.int (0 : Int32)), .val (.int (0 : Int32)), .unset, .unset] [(.int (1 : Int32))])) _
                  refine own_back (fun t k => XS.istore Xj718.here hx rfl (hb hby at_202) rfl (l' := #[.val (.int p1), .val (.int p2), .val (.int p3), .val (.int p4), .val (.int p5), .val (.int (Int32.ofNat nn)), .val (.int c0), .val (.int c1), .val (.int c2), .val (.int c3), .val (.ref b658), .val (.ref am708), .val (.int k0), .val (.int k1), .val (.int k2), .val (.int k3), .val (.int (0 : Int32)), .val (.int (1 : Int32)), .unset, .unset]) rfl k) ?_
                  show OwnGo p e below (Tj718.setTop (mkF m 204 #[.val (.int p1), .val (.int p2), .val (.int p3), .val (.int p4), .val (.int p5), .val (.int (Int32.ofNat nn)), .val (.int c0), .val (.int c1), .val (.int c2), .val (.int c3), .val (.ref b658), .val (.ref am708), .val (.int k0), .val (.int k1), .val (.int k2), .val (.int k3), .val (.int (0 : Int32)), .val (.int (1 : Int32)), .unset, .unset] [])) _
                  refine own_back (fun t k => XS.iload Xj718.here hx rfl (hb hby at_204) rfl k) ?_
                  show OwnGo p e below (Tj718.setTop (mkF m 206 #[.val (.int p1), .val (.int p2), .val (.int p3), .val (.int p4), .val (.int p5), .val (.int (Int32.ofNat nn)), .val (.int c0), .val (.int c1), .val (.int c2), .val (.int c3), .val (.ref b658), .val (.ref am708), .val (.int k0), .val (.int k1), .val (.int k2), .val (.int k3), .val (.int (0 : Int32)), .val (.int (1 : Int32)), .unset, .unset] [(.int k1)])) _
                  refine own_back (fun t k => XS.ifYes Xj718.here hx rfl (pc0 := 206) (pc' := 212) rfl (hb hby at_206) rfl (Jvm.Free.XT.i0_eq_t hc178_774) (by decide) (by decide) k) ?_
                  show OwnGo p e below (Tj718.setTop (mkF m 212 #[.val (.int p1), .val (.int p2), .val (.int p3), .val (.int p4), .val (.int p5), .val (.int (Int32.ofNat nn)), .val (.int c0), .val (.int c1), .val (.int c2), .val (.int c3), .val (.ref b658), .val (.ref am708), .val (.int k0), .val (.int k1), .val (.int k2), .val (.int k3), .val (.int (0 : Int32)), .val (.int (1 : Int32)), .unset, .unset] [])) _
                  refine own_back (fun t k => XS.iload Xj718.here hx rfl (hb hby at_212) rfl k) ?_
                  show OwnGo p e below (Tj718.setTop (mkF m 214 #[.val (.int p1), .val (.int p2), .val (.int p3), .val (.int p4), .val (.int p5), .val (.int (Int32.ofNat nn)), .val (.int c0), .val (.int c1), .val (.int c2), .val (.int c3), .val (.ref b658), .val (.ref am708), .val (.int k0), .val (.int k1), .val (.int k2), .val (.int k3), .val (.int (0 : Int32)), .val (.int (1 : Int32)), .unset, .unset] [(.int k2)])) _
                  refine own_back (fun t k => XS.ifNo Xj718.here hx rfl (hb hby at_214) rfl (Jvm.Free.XT.i0_eq_f hc170_770) k) ?_
                  show OwnGo p e below (Tj718.setTop (mkF m 217 #[.val (.int p1), .val (.int p2), .val (.int p3), .val (.int p4), .val (.int p5), .val (.int (Int32.ofNat nn)), .val (.int c0), .val (.int c1), .val (.int c2), .val (.int c3), .val (.ref b658), .val (.ref am708), .val (.int k0), .val (.int k1), .val (.int k2), .val (.int k3), .val (.int (0 : Int32)), .val (.int (1 : Int32)), .unset, .unset] [])) _
                  refine own_back (fun t k => XS.iconst Xj718.here hx rfl (hb hby at_217) k) ?_
                  show OwnGo p e below (Tj718.setTop (mkF m 218 #[.val (.int p1), .val (.int p2), .val (.int p3), .val (.int p4), .val (.int p5), .val (.int (Int32.ofNat nn)), .val (.int c0), .val (.int c1), .val (.int c2), .val (.int c3), .val (.ref b658), .val (.ref am708), .val (.int k0), .val (.int k1), .val (.int k2), .val (.int k3), .val (.int (0 : Int32)), .val (.int (1 : Int32)), .unset, .unset] [(.int (3 : Int32))])) _
                  refine own_back (fun t k => XS.istore Xj718.here hx rfl (hb hby at_218) rfl (l' := #[.val (.int p1), .val (.int p2), .val (.int p3), .val (.int p4), .val (.int p5), .val (.int (Int32.ofNat nn)), .val (.int c0), .val (.int c1), .val (.int c2), .val (.int c3), .val (.ref b658), .val (.ref am708), .val (.int k0), .val (.int k1), .val (.int k2), .val (.int k3), .val (.int (0 : Int32)), .val (.int (3 : Int32)), .unset, .unset]) rfl k) ?_
                  show OwnGo p e below (Tj718.setTop (mkF m 220 #[.val (.int p1), .val (.int p2), .val (.int p3), .val (.int p4), .val (.int p5), .val (.int (Int32.ofNat nn)), .val (.int c0), .val (.int c1), .val (.int c2), .val (.int c3), .val (.ref b658), .val (.ref am708), .val (.int k0), .val (.int k1), .val (.int k2), .val (.int k3), .val (.int (0 : Int32)), .val (.int (3 : Int32)), .unset, .unset] [])) _
                  refine own_back (fun t k => XS.iload Xj718.here hx rfl (hb hby at_220) rfl k) ?_
                  show OwnGo p e below (Tj718.setTop (mkF m 222 #[.val (.int p1), .val (.int p2), .val (.int p3), .val (.int p4), .val (.int p5), .val (.int (Int32.ofNat nn)), .val (.int c0), .val (.int c1), .val (.int c2), .val (.int c3), .val (.ref b658), .val (.ref am708), .val (.int k0), .val (.int k1), .val (.int k2), .val (.int k3), .val (.int (0 : Int32)), .val (.int (3 : Int32)), .unset, .unset] [(.int k3)])) _
                  refine own_back (fun t k => XS.ifNo Xj718.here hx rfl (hb hby at_222) rfl (Jvm.Free.XT.i0_eq_f hc162_762) k) ?_
                  show OwnGo p e below (Tj718.setTop (mkF m 225 #[.val (.int p1), .val (.int p2), .val (.int p3), .val (.int p4), .val (.int p5), .val (.int (Int32.ofNat nn)), .val (.int c0), .val (.int c1), .val (.int c2), .val (.int c3), .val (.ref b658), .val (.ref am708), .val (.int k0), .val (.int k1), .val (.int k2), .val (.int k3), .val (.int (0 : Int32)), .val (.int (3 : Int32)), .unset, .unset] [])) _
                  refine own_back (fun t k => XS.iconst Xj718.here hx rfl (hb hby at_225) k) ?_
                  show OwnGo p e below (Tj718.setTop (mkF m 226 #[.val (.int p1), .val (.int p2), .val (.int p3), .val (.int p4), .val (.int p5), .val (.int (Int32.ofNat nn)), .val (.int c0), .val (.int c1), .val (.int c2), .val (.int c3), .val (.ref b658), .val (.ref am708), .val (.int k0), .val (.int k1), .val (.int k2), .val (.int k3), .val (.int (0 : Int32)), .val (.int (3 : Int32)), .unset, .unset] [(.int (4 : Int32))])) _
                  refine own_back (fun t k => XS.istore Xj718.here hx rfl (hb hby at_226) rfl (l' := #[.val (.int p1), .val (.int p2), .val (.int p3), .val (.int p4), .val (.int p5), .val (.int (Int32.ofNat nn)), .val (.int c0), .val (.int c1), .val (.int c2), .val (.int c3), .val (.ref b658), .val (.ref am708), .val (.int k0), .val (.int k1), .val (.int k2), .val (.int k3), .val (.int (0 : Int32)), .val (.int (4 : Int32)), .unset, .unset]) rfl k) ?_
                  show OwnGo p e below (Tj718.setTop (mkF m 228 #[.val (.int p1), .val (.int p2), .val (.int p3), .val (.int p4), .val (.int p5), .val (.int (Int32.ofNat nn)), .val (.int c0), .val (.int c1), .val (.int c2), .val (.int c3), .val (.ref b658), .val (.ref am708), .val (.int k0), .val (.int k1), .val (.int k2), .val (.int k3), .val (.int (0 : Int32)), .val (.int (4 : Int32)), .unset, .unset] [])) _
                  have g0 := own_k1 hk0 hc186_775
                  have g1 := own_k0 hk1 hc178_774
                  have g2 := own_k1 hk2 hc170_770
                  have g3 := own_k1 hk3 hc162_762
                  have hl0 := g3.1
                  exact tl228_719 _ _ 0 4 ⟨_, _, _, Xj718, ej718, hSj718, hkj718, hZj718, hownj718, CRj718, Oj718, KPj718, Zj718, Nj718⟩ hs718_0 hs718_1 (fun q hq => by have hq4 : q < nn := (by omega); rw [own_at c0 c1 c2 c3 r0 r1 r2 r3 hn (by omega)]; rcases own_lt4 q (by omega) with rfl | rfl | rfl | rfl <;> first | omega | exact g1 (by omega)) (fun hq => by rw [own_at c0 c1 c2 c3 r0 r1 r2 r3 hn (by omega)]; exact g0.2) (fun q hq hq2 => by rw [own_at c0 c1 c2 c3 r0 r1 r2 r3 hn (by omega)]; rcases own_lt4 q (by omega) with rfl | rfl | rfl | rfl <;> first | omega | exact g1 (by omega)) (fun hq => by rw [own_at c0 c1 c2 c3 r0 r1 r2 r3 hn (by omega)]; exact g3.2) (by omega) (by omega)
              · refine own_back (fun t k => XS.ifNo Xj718.here hx rfl (hb hby at_178) rfl (Jvm.Free.XT.i0_eq_f hc178_774) k) ?_
                show OwnGo p e below (Tj718.setTop (mkF m 181 #[.val (.int p1), .val (.int p2), .val (.int p3), .val (.int p4), .val (.int p5), .val (.int (Int32.ofNat nn)), .val (.int c0), .val (.int c1), .val (.int c2), .val (.int c3), .val (.ref b658), .val (.ref am708), .val (.int k0), .val (.int k1), .val (.int k2), .val (.int k3), .val (.int (2 : Int32)), .unset, .unset, .unset] [])) _
                refine own_back (fun t k => XS.iconst Xj718.here hx rfl (hb hby at_181) k) ?_
                show OwnGo p e below (Tj718.setTop (mkF m 182 #[.val (.int p1), .val (.int p2), .val (.int p3), .val (.int p4), .val (.int p5), .val (.int (Int32.ofNat nn)), .val (.int c0), .val (.int c1), .val (.int c2), .val (.int c3), .val (.ref b658), .val (.ref am708), .val (.int k0), .val (.int k1), .val (.int k2), .val (.int k3), .val (.int (2 : Int32)), .unset, .unset, .unset] [(.int (1 : Int32))])) _
                refine own_back (fun t k => XS.istore Xj718.here hx rfl (hb hby at_182) rfl (l' := #[.val (.int p1), .val (.int p2), .val (.int p3), .val (.int p4), .val (.int p5), .val (.int (Int32.ofNat nn)), .val (.int c0), .val (.int c1), .val (.int c2), .val (.int c3), .val (.ref b658), .val (.ref am708), .val (.int k0), .val (.int k1), .val (.int k2), .val (.int k3), .val (.int (1 : Int32)), .unset, .unset, .unset]) rfl k) ?_
                show OwnGo p e below (Tj718.setTop (mkF m 184 #[.val (.int p1), .val (.int p2), .val (.int p3), .val (.int p4), .val (.int p5), .val (.int (Int32.ofNat nn)), .val (.int c0), .val (.int c1), .val (.int c2), .val (.int c3), .val (.ref b658), .val (.ref am708), .val (.int k0), .val (.int k1), .val (.int k2), .val (.int k3), .val (.int (1 : Int32)), .unset, .unset, .unset] [])) _
                refine own_back (fun t k => XS.iload Xj718.here hx rfl (hb hby at_184) rfl k) ?_
                show OwnGo p e below (Tj718.setTop (mkF m 186 #[.val (.int p1), .val (.int p2), .val (.int p3), .val (.int p4), .val (.int p5), .val (.int (Int32.ofNat nn)), .val (.int c0), .val (.int c1), .val (.int c2), .val (.int c3), .val (.ref b658), .val (.ref am708), .val (.int k0), .val (.int k1), .val (.int k2), .val (.int k3), .val (.int (1 : Int32)), .unset, .unset, .unset] [(.int k0)])) _
                by_cases hc186_776 : k0 = (0 : Int32)
                · refine own_back (fun t k => XS.ifYes Xj718.here hx rfl (pc0 := 186) (pc' := 192) rfl (hb hby at_186) rfl (Jvm.Free.XT.i0_eq_t hc186_776) (by decide) (by decide) k) ?_
                  show OwnGo p e below (Tj718.setTop (mkF m 192 #[.val (.int p1), .val (.int p2), .val (.int p3), .val (.int p4), .val (.int p5), .val (.int (Int32.ofNat nn)), .val (.int c0), .val (.int c1), .val (.int c2), .val (.int c3), .val (.ref b658), .val (.ref am708), .val (.int k0), .val (.int k1), .val (.int k2), .val (.int k3), .val (.int (1 : Int32)), .unset, .unset, .unset] [])) _
                  refine own_back (fun t k => XS.iload Xj718.here hx rfl (hb hby at_192) rfl k) ?_
                  show OwnGo p e below (Tj718.setTop (mkF m 194 #[.val (.int p1), .val (.int p2), .val (.int p3), .val (.int p4), .val (.int p5), .val (.int (Int32.ofNat nn)), .val (.int c0), .val (.int c1), .val (.int c2), .val (.int c3), .val (.ref b658), .val (.ref am708), .val (.int k0), .val (.int k1), .val (.int k2), .val (.int k3), .val (.int (1 : Int32)), .unset, .unset, .unset] [(.int (1 : Int32))])) _
                  refine own_back (fun t k => XS.istore Xj718.here hx rfl (hb hby at_194) rfl (l' := #[.val (.int p1), .val (.int p2), .val (.int p3), .val (.int p4), .val (.int p5), .val (.int (Int32.ofNat nn)), .val (.int c0), .val (.int c1), .val (.int c2), .val (.int c3), .val (.ref b658), .val (.ref am708), .val (.int k0), .val (.int k1), .val (.int k2), .val (.int k3), .val (.int (1 : Int32)), .val (.int (1 : Int32)), .unset, .unset]) rfl k) ?_
                  show OwnGo p e below (Tj718.setTop (mkF m 196 #[.val (.int p1), .val (.int p2), .val (.int p3), .val (.int p4), .val (.int p5), .val (.int (Int32.ofNat nn)), .val (.int c0), .val (.int c1), .val (.int c2), .val (.int c3), .val (.ref b658), .val (.ref am708), .val (.int k0), .val (.int k1), .val (.int k2), .val (.int k3), .val (.int (1 : Int32)), .val (.int (1 : Int32)), .unset, .unset] [])) _
                  refine own_back (fun t k => XS.iload Xj718.here hx rfl (hb hby at_196) rfl k) ?_
                  show OwnGo p e below (Tj718.setTop (mkF m 198 #[.val (.int p1), .val (.int p2), .val (.int p3), .val (.int p4), .val (.int p5), .val (.int (Int32.ofNat nn)), .val (.int c0), .val (.int c1), .val (.int c2), .val (.int c3), .val (.ref b658), .val (.ref am708), .val (.int k0), .val (.int k1), .val (.int k2), .val (.int k3), .val (.int (1 : Int32)), .val (.int (1 : Int32)), .unset, .unset] [(.int k0)])) _
                  refine own_back (fun t k => XS.ifYes Xj718.here hx rfl (pc0 := 198) (pc' := 204) rfl (hb hby at_198) rfl (Jvm.Free.XT.i0_eq_t hc186_776) (by decide) (by decide) k) ?_
                  show OwnGo p e below (Tj718.setTop (mkF m 204 #[.val (.int p1), .val (.int p2), .val (.int p3), .val (.int p4), .val (.int p5), .val (.int (Int32.ofNat nn)), .val (.int c0), .val (.int c1), .val (.int c2), .val (.int c3), .val (.ref b658), .val (.ref am708), .val (.int k0), .val (.int k1), .val (.int k2), .val (.int k3), .val (.int (1 : Int32)), .val (.int (1 : Int32)), .unset, .unset] [])) _
                  refine own_back (fun t k => XS.iload Xj718.here hx rfl (hb hby at_204) rfl k) ?_
                  show OwnGo p e below (Tj718.setTop (mkF m 206 #[.val (.int p1), .val (.int p2), .val (.int p3), .val (.int p4), .val (.int p5), .val (.int (Int32.ofNat nn)), .val (.int c0), .val (.int c1), .val (.int c2), .val (.int c3), .val (.ref b658), .val (.ref am708), .val (.int k0), .val (.int k1), .val (.int k2), .val (.int k3), .val (.int (1 : Int32)), .val (.int (1 : Int32)), .unset, .unset] [(.int k1)])) _
                  refine own_back (fun t k => XS.ifNo Xj718.here hx rfl (hb hby at_206) rfl (Jvm.Free.XT.i0_eq_f hc178_774) k) ?_
                  show OwnGo p e below (Tj718.setTop (mkF m 209 #[.val (.int p1), .val (.int p2), .val (.int p3), .val (.int p4), .val (.int p5), .val (.int (Int32.ofNat nn)), .val (.int c0), .val (.int c1), .val (.int c2), .val (.int c3), .val (.ref b658), .val (.ref am708), .val (.int k0), .val (.int k1), .val (.int k2), .val (.int k3), .val (.int (1 : Int32)), .val (.int (1 : Int32)), .unset, .unset] [])) _
                  refine own_back (fun t k => XS.iconst Xj718.here hx rfl (hb hby at_209) k) ?_
                  show OwnGo p e below (Tj718.setTop (mkF m 210 #[.val (.int p1), .val (.int p2), .val (.int p3), .val (.int p4), .val (.int p5), .val (.int (Int32.ofNat nn)), .val (.int c0), .val (.int c1), .val (.int c2), .val (.int c3), .val (.ref b658), .val (.ref am708), .val (.int k0), .val (.int k1), .val (.int k2), .val (.int k3), .val (.int (1 : Int32)), .val (.int (1 : Int32)), .unset, .unset] [(.int (2 : Int32))])) _
                  refine own_back (fun t k => XS.istore Xj718.here hx rfl (hb hby at_210) rfl (l' := #[.val (.int p1), .val (.int p2), .val (.int p3), .val (.int p4), .val (.int p5), .val (.int (Int32.ofNat nn)), .val (.int c0), .val (.int c1), .val (.int c2), .val (.int c3), .val (.ref b658), .val (.ref am708), .val (.int k0), .val (.int k1), .val (.int k2), .val (.int k3), .val (.int (1 : Int32)), .val (.int (2 : Int32)), .unset, .unset]) rfl k) ?_
                  show OwnGo p e below (Tj718.setTop (mkF m 212 #[.val (.int p1), .val (.int p2), .val (.int p3), .val (.int p4), .val (.int p5), .val (.int (Int32.ofNat nn)), .val (.int c0), .val (.int c1), .val (.int c2), .val (.int c3), .val (.ref b658), .val (.ref am708), .val (.int k0), .val (.int k1), .val (.int k2), .val (.int k3), .val (.int (1 : Int32)), .val (.int (2 : Int32)), .unset, .unset] [])) _
                  refine own_back (fun t k => XS.iload Xj718.here hx rfl (hb hby at_212) rfl k) ?_
                  show OwnGo p e below (Tj718.setTop (mkF m 214 #[.val (.int p1), .val (.int p2), .val (.int p3), .val (.int p4), .val (.int p5), .val (.int (Int32.ofNat nn)), .val (.int c0), .val (.int c1), .val (.int c2), .val (.int c3), .val (.ref b658), .val (.ref am708), .val (.int k0), .val (.int k1), .val (.int k2), .val (.int k3), .val (.int (1 : Int32)), .val (.int (2 : Int32)), .unset, .unset] [(.int k2)])) _
                  refine own_back (fun t k => XS.ifNo Xj718.here hx rfl (hb hby at_214) rfl (Jvm.Free.XT.i0_eq_f hc170_770) k) ?_
                  show OwnGo p e below (Tj718.setTop (mkF m 217 #[.val (.int p1), .val (.int p2), .val (.int p3), .val (.int p4), .val (.int p5), .val (.int (Int32.ofNat nn)), .val (.int c0), .val (.int c1), .val (.int c2), .val (.int c3), .val (.ref b658), .val (.ref am708), .val (.int k0), .val (.int k1), .val (.int k2), .val (.int k3), .val (.int (1 : Int32)), .val (.int (2 : Int32)), .unset, .unset] [])) _
                  refine own_back (fun t k => XS.iconst Xj718.here hx rfl (hb hby at_217) k) ?_
                  show OwnGo p e below (Tj718.setTop (mkF m 218 #[.val (.int p1), .val (.int p2), .val (.int p3), .val (.int p4), .val (.int p5), .val (.int (Int32.ofNat nn)), .val (.int c0), .val (.int c1), .val (.int c2), .val (.int c3), .val (.ref b658), .val (.ref am708), .val (.int k0), .val (.int k1), .val (.int k2), .val (.int k3), .val (.int (1 : Int32)), .val (.int (2 : Int32)), .unset, .unset] [(.int (3 : Int32))])) _
                  refine own_back (fun t k => XS.istore Xj718.here hx rfl (hb hby at_218) rfl (l' := #[.val (.int p1), .val (.int p2), .val (.int p3), .val (.int p4), .val (.int p5), .val (.int (Int32.ofNat nn)), .val (.int c0), .val (.int c1), .val (.int c2), .val (.int c3), .val (.ref b658), .val (.ref am708), .val (.int k0), .val (.int k1), .val (.int k2), .val (.int k3), .val (.int (1 : Int32)), .val (.int (3 : Int32)), .unset, .unset]) rfl k) ?_
                  show OwnGo p e below (Tj718.setTop (mkF m 220 #[.val (.int p1), .val (.int p2), .val (.int p3), .val (.int p4), .val (.int p5), .val (.int (Int32.ofNat nn)), .val (.int c0), .val (.int c1), .val (.int c2), .val (.int c3), .val (.ref b658), .val (.ref am708), .val (.int k0), .val (.int k1), .val (.int k2), .val (.int k3), .val (.int (1 : Int32)), .val (.int (3 : Int32)), .unset, .unset] [])) _
                  refine own_back (fun t k => XS.iload Xj718.here hx rfl (hb hby at_220) rfl k) ?_
                  show OwnGo p e below (Tj718.setTop (mkF m 222 #[.val (.int p1), .val (.int p2), .val (.int p3), .val (.int p4), .val (.int p5), .val (.int (Int32.ofNat nn)), .val (.int c0), .val (.int c1), .val (.int c2), .val (.int c3), .val (.ref b658), .val (.ref am708), .val (.int k0), .val (.int k1), .val (.int k2), .val (.int k3), .val (.int (1 : Int32)), .val (.int (3 : Int32)), .unset, .unset] [(.int k3)])) _
                  refine own_back (fun t k => XS.ifNo Xj718.here hx rfl (hb hby at_222) rfl (Jvm.Free.XT.i0_eq_f hc162_762) k) ?_
                  show OwnGo p e below (Tj718.setTop (mkF m 225 #[.val (.int p1), .val (.int p2), .val (.int p3), .val (.int p4), .val (.int p5), .val (.int (Int32.ofNat nn)), .val (.int c0), .val (.int c1), .val (.int c2), .val (.int c3), .val (.ref b658), .val (.ref am708), .val (.int k0), .val (.int k1), .val (.int k2), .val (.int k3), .val (.int (1 : Int32)), .val (.int (3 : Int32)), .unset, .unset] [])) _
                  refine own_back (fun t k => XS.iconst Xj718.here hx rfl (hb hby at_225) k) ?_
                  show OwnGo p e below (Tj718.setTop (mkF m 226 #[.val (.int p1), .val (.int p2), .val (.int p3), .val (.int p4), .val (.int p5), .val (.int (Int32.ofNat nn)), .val (.int c0), .val (.int c1), .val (.int c2), .val (.int c3), .val (.ref b658), .val (.ref am708), .val (.int k0), .val (.int k1), .val (.int k2), .val (.int k3), .val (.int (1 : Int32)), .val (.int (3 : Int32)), .unset, .unset] [(.int (4 : Int32))])) _
                  refine own_back (fun t k => XS.istore Xj718.here hx rfl (hb hby at_226) rfl (l' := #[.val (.int p1), .val (.int p2), .val (.int p3), .val (.int p4), .val (.int p5), .val (.int (Int32.ofNat nn)), .val (.int c0), .val (.int c1), .val (.int c2), .val (.int c3), .val (.ref b658), .val (.ref am708), .val (.int k0), .val (.int k1), .val (.int k2), .val (.int k3), .val (.int (1 : Int32)), .val (.int (4 : Int32)), .unset, .unset]) rfl k) ?_
                  show OwnGo p e below (Tj718.setTop (mkF m 228 #[.val (.int p1), .val (.int p2), .val (.int p3), .val (.int p4), .val (.int p5), .val (.int (Int32.ofNat nn)), .val (.int c0), .val (.int c1), .val (.int c2), .val (.int c3), .val (.ref b658), .val (.ref am708), .val (.int k0), .val (.int k1), .val (.int k2), .val (.int k3), .val (.int (1 : Int32)), .val (.int (4 : Int32)), .unset, .unset] [])) _
                  have g0 := own_k0 hk0 hc186_776
                  have g1 := own_k1 hk1 hc178_774
                  have g2 := own_k1 hk2 hc170_770
                  have g3 := own_k1 hk3 hc162_762
                  have hl0 := g3.1
                  exact tl228_719 _ _ 1 4 ⟨_, _, _, Xj718, ej718, hSj718, hkj718, hZj718, hownj718, CRj718, Oj718, KPj718, Zj718, Nj718⟩ hs718_0 hs718_1 (fun q hq => by have hq4 : q < nn := (by omega); rw [own_at c0 c1 c2 c3 r0 r1 r2 r3 hn (by omega)]; rcases own_lt4 q (by omega) with rfl | rfl | rfl | rfl <;> first | omega | exact g0 (by omega)) (fun hq => by rw [own_at c0 c1 c2 c3 r0 r1 r2 r3 hn (by omega)]; exact g1.2) (fun q hq hq2 => by rw [own_at c0 c1 c2 c3 r0 r1 r2 r3 hn (by omega)]; rcases own_lt4 q (by omega) with rfl | rfl | rfl | rfl <;> first | omega | exact g0 (by omega)) (fun hq => by rw [own_at c0 c1 c2 c3 r0 r1 r2 r3 hn (by omega)]; exact g3.2) (by omega) (by omega)
                · refine own_back (fun t k => XS.ifNo Xj718.here hx rfl (hb hby at_186) rfl (Jvm.Free.XT.i0_eq_f hc186_776) k) ?_
                  show OwnGo p e below (Tj718.setTop (mkF m 189 #[.val (.int p1), .val (.int p2), .val (.int p3), .val (.int p4), .val (.int p5), .val (.int (Int32.ofNat nn)), .val (.int c0), .val (.int c1), .val (.int c2), .val (.int c3), .val (.ref b658), .val (.ref am708), .val (.int k0), .val (.int k1), .val (.int k2), .val (.int k3), .val (.int (1 : Int32)), .unset, .unset, .unset] [])) _
                  refine own_back (fun t k => XS.iconst Xj718.here hx rfl (hb hby at_189) k) ?_
                  show OwnGo p e below (Tj718.setTop (mkF m 190 #[.val (.int p1), .val (.int p2), .val (.int p3), .val (.int p4), .val (.int p5), .val (.int (Int32.ofNat nn)), .val (.int c0), .val (.int c1), .val (.int c2), .val (.int c3), .val (.ref b658), .val (.ref am708), .val (.int k0), .val (.int k1), .val (.int k2), .val (.int k3), .val (.int (1 : Int32)), .unset, .unset, .unset] [(.int (0 : Int32))])) _
                  refine own_back (fun t k => XS.istore Xj718.here hx rfl (hb hby at_190) rfl (l' := #[.val (.int p1), .val (.int p2), .val (.int p3), .val (.int p4), .val (.int p5), .val (.int (Int32.ofNat nn)), .val (.int c0), .val (.int c1), .val (.int c2), .val (.int c3), .val (.ref b658), .val (.ref am708), .val (.int k0), .val (.int k1), .val (.int k2), .val (.int k3), .val (.int (0 : Int32)), .unset, .unset, .unset]) rfl k) ?_
                  show OwnGo p e below (Tj718.setTop (mkF m 192 #[.val (.int p1), .val (.int p2), .val (.int p3), .val (.int p4), .val (.int p5), .val (.int (Int32.ofNat nn)), .val (.int c0), .val (.int c1), .val (.int c2), .val (.int c3), .val (.ref b658), .val (.ref am708), .val (.int k0), .val (.int k1), .val (.int k2), .val (.int k3), .val (.int (0 : Int32)), .unset, .unset, .unset] [])) _
                  refine own_back (fun t k => XS.iload Xj718.here hx rfl (hb hby at_192) rfl k) ?_
                  show OwnGo p e below (Tj718.setTop (mkF m 194 #[.val (.int p1), .val (.int p2), .val (.int p3), .val (.int p4), .val (.int p5), .val (.int (Int32.ofNat nn)), .val (.int c0), .val (.int c1), .val (.int c2), .val (.int c3), .val (.ref b658), .val (.ref am708), .val (.int k0), .val (.int k1), .val (.int k2), .val (.int k3), .val (.int (0 : Int32)), .unset, .unset, .unset] [(.int (0 : Int32))])) _
                  refine own_back (fun t k => XS.istore Xj718.here hx rfl (hb hby at_194) rfl (l' := #[.val (.int p1), .val (.int p2), .val (.int p3), .val (.int p4), .val (.int p5), .val (.int (Int32.ofNat nn)), .val (.int c0), .val (.int c1), .val (.int c2), .val (.int c3), .val (.ref b658), .val (.ref am708), .val (.int k0), .val (.int k1), .val (.int k2), .val (.int k3), .val (.int (0 : Int32)), .val (.int (0 : Int32)), .unset, .unset]) rfl k) ?_
                  show OwnGo p e below (Tj718.setTop (mkF m 196 #[.val (.int p1), .val (.int p2), .val (.int p3), .val (.int p4), .val (.int p5), .val (.int (Int32.ofNat nn)), .val (.int c0), .val (.int c1), .val (.int c2), .val (.int c3), .val (.ref b658), .val (.ref am708), .val (.int k0), .val (.int k1), .val (.int k2), .val (.int k3), .val (.int (0 : Int32)), .val (.int (0 : Int32)), .unset, .unset] [])) _
                  refine own_back (fun t k => XS.iload Xj718.here hx rfl (hb hby at_196) rfl k) ?_
                  show OwnGo p e below (Tj718.setTop (mkF m 198 #[.val (.int p1), .val (.int p2), .val (.int p3), .val (.int p4), .val (.int p5), .val (.int (Int32.ofNat nn)), .val (.int c0), .val (.int c1), .val (.int c2), .val (.int c3), .val (.ref b658), .val (.ref am708), .val (.int k0), .val (.int k1), .val (.int k2), .val (.int k3), .val (.int (0 : Int32)), .val (.int (0 : Int32)), .unset, .unset] [(.int k0)])) _
                  refine own_back (fun t k => XS.ifNo Xj718.here hx rfl (hb hby at_198) rfl (Jvm.Free.XT.i0_eq_f hc186_776) k) ?_
                  show OwnGo p e below (Tj718.setTop (mkF m 201 #[.val (.int p1), .val (.int p2), .val (.int p3), .val (.int p4), .val (.int p5), .val (.int (Int32.ofNat nn)), .val (.int c0), .val (.int c1), .val (.int c2), .val (.int c3), .val (.ref b658), .val (.ref am708), .val (.int k0), .val (.int k1), .val (.int k2), .val (.int k3), .val (.int (0 : Int32)), .val (.int (0 : Int32)), .unset, .unset] [])) _
                  refine own_back (fun t k => XS.iconst Xj718.here hx rfl (hb hby at_201) k) ?_
                  show OwnGo p e below (Tj718.setTop (mkF m 202 #[.val (.int p1), .val (.int p2), .val (.int p3), .val (.int p4), .val (.int p5), .val (.int (Int32.ofNat nn)), .val (.int c0), .val (.int c1), .val (.int c2), .val (.int c3), .val (.ref b658), .val (.ref am708), .val (.int k0), .val (.int k1), .val (.int k2), .val (.int k3), .val (.int (0 : Int32)), .val (.int (0 : Int32)), .unset, .unset] [(.int (1 : Int32))])) _
                  refine own_back (fun t k => XS.istore Xj718.here hx rfl (hb hby at_202) rfl (l' := #[.val (.int p1), .val (.int p2), .val (.int p3), .val (.int p4), .val (.int p5), .val (.int (Int32.ofNat nn)), .val (.int c0), .val (.int c1), .val (.int c2), .val (.int c3), .val (.ref b658), .val (.ref am708), .val (.int k0), .val (.int k1), .val (.int k2), .val (.int k3), .val (.int (0 : Int32)), .val (.int (1 : Int32)), .unset, .unset]) rfl k) ?_
                  show OwnGo p e below (Tj718.setTop (mkF m 204 #[.val (.int p1), .val (.int p2), .val (.int p3), .val (.int p4), .val (.int p5), .val (.int (Int32.ofNat nn)), .val (.int c0), .val (.int c1), .val (.int c2), .val (.int c3), .val (.ref b658), .val (.ref am708), .val (.int k0), .val (.int k1), .val (.int k2), .val (.int k3), .val (.int (0 : Int32)), .val (.int (1 : Int32)), .unset, .unset] [])) _
                  refine own_back (fun t k => XS.iload Xj718.here hx rfl (hb hby at_204) rfl k) ?_
                  show OwnGo p e below (Tj718.setTop (mkF m 206 #[.val (.int p1), .val (.int p2), .val (.int p3), .val (.int p4), .val (.int p5), .val (.int (Int32.ofNat nn)), .val (.int c0), .val (.int c1), .val (.int c2), .val (.int c3), .val (.ref b658), .val (.ref am708), .val (.int k0), .val (.int k1), .val (.int k2), .val (.int k3), .val (.int (0 : Int32)), .val (.int (1 : Int32)), .unset, .unset] [(.int k1)])) _
                  refine own_back (fun t k => XS.ifNo Xj718.here hx rfl (hb hby at_206) rfl (Jvm.Free.XT.i0_eq_f hc178_774) k) ?_
                  show OwnGo p e below (Tj718.setTop (mkF m 209 #[.val (.int p1), .val (.int p2), .val (.int p3), .val (.int p4), .val (.int p5), .val (.int (Int32.ofNat nn)), .val (.int c0), .val (.int c1), .val (.int c2), .val (.int c3), .val (.ref b658), .val (.ref am708), .val (.int k0), .val (.int k1), .val (.int k2), .val (.int k3), .val (.int (0 : Int32)), .val (.int (1 : Int32)), .unset, .unset] [])) _
                  refine own_back (fun t k => XS.iconst Xj718.here hx rfl (hb hby at_209) k) ?_
                  show OwnGo p e below (Tj718.setTop (mkF m 210 #[.val (.int p1), .val (.int p2), .val (.int p3), .val (.int p4), .val (.int p5), .val (.int (Int32.ofNat nn)), .val (.int c0), .val (.int c1), .val (.int c2), .val (.int c3), .val (.ref b658), .val (.ref am708), .val (.int k0), .val (.int k1), .val (.int k2), .val (.int k3), .val (.int (0 : Int32)), .val (.int (1 : Int32)), .unset, .unset] [(.int (2 : Int32))])) _
                  refine own_back (fun t k => XS.istore Xj718.here hx rfl (hb hby at_210) rfl (l' := #[.val (.int p1), .val (.int p2), .val (.int p3), .val (.int p4), .val (.int p5), .val (.int (Int32.ofNat nn)), .val (.int c0), .val (.int c1), .val (.int c2), .val (.int c3), .val (.ref b658), .val (.ref am708), .val (.int k0), .val (.int k1), .val (.int k2), .val (.int k3), .val (.int (0 : Int32)), .val (.int (2 : Int32)), .unset, .unset]) rfl k) ?_
                  show OwnGo p e below (Tj718.setTop (mkF m 212 #[.val (.int p1), .val (.int p2), .val (.int p3), .val (.int p4), .val (.int p5), .val (.int (Int32.ofNat nn)), .val (.int c0), .val (.int c1), .val (.int c2), .val (.int c3), .val (.ref b658), .val (.ref am708), .val (.int k0), .val (.int k1), .val (.int k2), .val (.int k3), .val (.int (0 : Int32)), .val (.int (2 : Int32)), .unset, .unset] [])) _
                  refine own_back (fun t k => XS.iload Xj718.here hx rfl (hb hby at_212) rfl k) ?_
                  show OwnGo p e below (Tj718.setTop (mkF m 214 #[.val (.int p1), .val (.int p2), .val (.int p3), .val (.int p4), .val (.int p5), .val (.int (Int32.ofNat nn)), .val (.int c0), .val (.int c1), .val (.int c2), .val (.int c3), .val (.ref b658), .val (.ref am708), .val (.int k0), .val (.int k1), .val (.int k2), .val (.int k3), .val (.int (0 : Int32)), .val (.int (2 : Int32)), .unset, .unset] [(.int k2)])) _
                  refine own_back (fun t k => XS.ifNo Xj718.here hx rfl (hb hby at_214) rfl (Jvm.Free.XT.i0_eq_f hc170_770) k) ?_
                  show OwnGo p e below (Tj718.setTop (mkF m 217 #[.val (.int p1), .val (.int p2), .val (.int p3), .val (.int p4), .val (.int p5), .val (.int (Int32.ofNat nn)), .val (.int c0), .val (.int c1), .val (.int c2), .val (.int c3), .val (.ref b658), .val (.ref am708), .val (.int k0), .val (.int k1), .val (.int k2), .val (.int k3), .val (.int (0 : Int32)), .val (.int (2 : Int32)), .unset, .unset] [])) _
                  refine own_back (fun t k => XS.iconst Xj718.here hx rfl (hb hby at_217) k) ?_
                  show OwnGo p e below (Tj718.setTop (mkF m 218 #[.val (.int p1), .val (.int p2), .val (.int p3), .val (.int p4), .val (.int p5), .val (.int (Int32.ofNat nn)), .val (.int c0), .val (.int c1), .val (.int c2), .val (.int c3), .val (.ref b658), .val (.ref am708), .val (.int k0), .val (.int k1), .val (.int k2), .val (.int k3), .val (.int (0 : Int32)), .val (.int (2 : Int32)), .unset, .unset] [(.int (3 : Int32))])) _
                  refine own_back (fun t k => XS.istore Xj718.here hx rfl (hb hby at_218) rfl (l' := #[.val (.int p1), .val (.int p2), .val (.int p3), .val (.int p4), .val (.int p5), .val (.int (Int32.ofNat nn)), .val (.int c0), .val (.int c1), .val (.int c2), .val (.int c3), .val (.ref b658), .val (.ref am708), .val (.int k0), .val (.int k1), .val (.int k2), .val (.int k3), .val (.int (0 : Int32)), .val (.int (3 : Int32)), .unset, .unset]) rfl k) ?_
                  show OwnGo p e below (Tj718.setTop (mkF m 220 #[.val (.int p1), .val (.int p2), .val (.int p3), .val (.int p4), .val (.int p5), .val (.int (Int32.ofNat nn)), .val (.int c0), .val (.int c1), .val (.int c2), .val (.int c3), .val (.ref b658), .val (.ref am708), .val (.int k0), .val (.int k1), .val (.int k2), .val (.int k3), .val (.int (0 : Int32)), .val (.int (3 : Int32)), .unset, .unset] [])) _
                  refine own_back (fun t k => XS.iload Xj718.here hx rfl (hb hby at_220) rfl k) ?_
                  show OwnGo p e below (Tj718.setTop (mkF m 222 #[.val (.int p1), .val (.int p2), .val (.int p3), .val (.int p4), .val (.int p5), .val (.int (Int32.ofNat nn)), .val (.int c0), .val (.int c1), .val (.int c2), .val (.int c3), .val (.ref b658), .val (.ref am708), .val (.int k0), .val (.int k1), .val (.int k2), .val (.int k3), .val (.int (0 : Int32)), .val (.int (3 : Int32)), .unset, .unset] [(.int k3)])) _
                  refine own_back (fun t k => XS.ifNo Xj718.here hx rfl (hb hby at_222) rfl (Jvm.Free.XT.i0_eq_f hc162_762) k) ?_
                  show OwnGo p e below (Tj718.setTop (mkF m 225 #[.val (.int p1), .val (.int p2), .val (.int p3), .val (.int p4), .val (.int p5), .val (.int (Int32.ofNat nn)), .val (.int c0), .val (.int c1), .val (.int c2), .val (.int c3), .val (.ref b658), .val (.ref am708), .val (.int k0), .val (.int k1), .val (.int k2), .val (.int k3), .val (.int (0 : Int32)), .val (.int (3 : Int32)), .unset, .unset] [])) _
                  refine own_back (fun t k => XS.iconst Xj718.here hx rfl (hb hby at_225) k) ?_
                  show OwnGo p e below (Tj718.setTop (mkF m 226 #[.val (.int p1), .val (.int p2), .val (.int p3), .val (.int p4), .val (.int p5), .val (.int (Int32.ofNat nn)), .val (.int c0), .val (.int c1), .val (.int c2), .val (.int c3), .val (.ref b658), .val (.ref am708), .val (.int k0), .val (.int k1), .val (.int k2), .val (.int k3), .val (.int (0 : Int32)), .val (.int (3 : Int32)), .unset, .unset] [(.int (4 : Int32))])) _
                  refine own_back (fun t k => XS.istore Xj718.here hx rfl (hb hby at_226) rfl (l' := #[.val (.int p1), .val (.int p2), .val (.int p3), .val (.int p4), .val (.int p5), .val (.int (Int32.ofNat nn)), .val (.int c0), .val (.int c1), .val (.int c2), .val (.int c3), .val (.ref b658), .val (.ref am708), .val (.int k0), .val (.int k1), .val (.int k2), .val (.int k3), .val (.int (0 : Int32)), .val (.int (4 : Int32)), .unset, .unset]) rfl k) ?_
                  show OwnGo p e below (Tj718.setTop (mkF m 228 #[.val (.int p1), .val (.int p2), .val (.int p3), .val (.int p4), .val (.int p5), .val (.int (Int32.ofNat nn)), .val (.int c0), .val (.int c1), .val (.int c2), .val (.int c3), .val (.ref b658), .val (.ref am708), .val (.int k0), .val (.int k1), .val (.int k2), .val (.int k3), .val (.int (0 : Int32)), .val (.int (4 : Int32)), .unset, .unset] [])) _
                  have g0 := own_k1 hk0 hc186_776
                  have g1 := own_k1 hk1 hc178_774
                  have g2 := own_k1 hk2 hc170_770
                  have g3 := own_k1 hk3 hc162_762
                  have hl0 := g3.1
                  exact tl228_719 _ _ 0 4 ⟨_, _, _, Xj718, ej718, hSj718, hkj718, hZj718, hownj718, CRj718, Oj718, KPj718, Zj718, Nj718⟩ hs718_0 hs718_1 (fun q hq => by have hq4 : q < nn := (by omega); rw [own_at c0 c1 c2 c3 r0 r1 r2 r3 hn (by omega)]; rcases own_lt4 q (by omega) with rfl | rfl | rfl | rfl <;> first | omega) (fun hq => by rw [own_at c0 c1 c2 c3 r0 r1 r2 r3 hn (by omega)]; exact g0.2) (fun q hq hq2 => by rw [own_at c0 c1 c2 c3 r0 r1 r2 r3 hn (by omega)]; rcases own_lt4 q (by omega) with rfl | rfl | rfl | rfl <;> first | omega) (fun hq => by rw [own_at c0 c1 c2 c3 r0 r1 r2 r3 hn (by omega)]; exact g3.2) (by omega) (by omega)
        refine own_back (fun t k => XS.iload Xj717.here hx rfl (hb hby at_135) rfl k) ?_
        show OwnGo p e below (Tj717.setTop (mkF m 137 #[.val (.int p1), .val (.int p2), .val (.int p3), .val (.int p4), .val (.int p5), .val (.int (Int32.ofNat nn)), .val (.int c0), .val (.int c1), .val (.int c2), .val (.int c3), .val (.ref b658), .val (.ref am708), .val (.int k0), .val (.int k1), .val (.int k2), .unset, .unset, .unset, .unset, .unset] [(.int (Int32.ofNat nn))])) _
        refine own_back (fun t k => XS.iconst Xj717.here hx rfl (hb hby at_137) k) ?_
        show OwnGo p e below (Tj717.setTop (mkF m 138 #[.val (.int p1), .val (.int p2), .val (.int p3), .val (.int p4), .val (.int p5), .val (.int (Int32.ofNat nn)), .val (.int c0), .val (.int c1), .val (.int c2), .val (.int c3), .val (.ref b658), .val (.ref am708), .val (.int k0), .val (.int k1), .val (.int k2), .unset, .unset, .unset, .unset, .unset] [(.int (3 : Int32)), (.int (Int32.ofNat nn))])) _
        by_cases hc138_777 : (3 : Int32) < (Int32.ofNat nn)
        · refine own_back (fun t k => XS.icmpNo Xj717.here hx rfl (hb hby at_138) rfl (Jvm.Free.XT.ii_le_f hc138_777) k) ?_
          show OwnGo p e below (Tj717.setTop (mkF m 141 #[.val (.int p1), .val (.int p2), .val (.int p3), .val (.int p4), .val (.int p5), .val (.int (Int32.ofNat nn)), .val (.int c0), .val (.int c1), .val (.int c2), .val (.int c3), .val (.ref b658), .val (.ref am708), .val (.int k0), .val (.int k1), .val (.int k2), .unset, .unset, .unset, .unset, .unset] [])) _
          refine own_back (fun t k => XS.iload Xj717.here hx rfl (hb hby at_141) rfl k) ?_
          show OwnGo p e below (Tj717.setTop (mkF m 143 #[.val (.int p1), .val (.int p2), .val (.int p3), .val (.int p4), .val (.int p5), .val (.int (Int32.ofNat nn)), .val (.int c0), .val (.int c1), .val (.int c2), .val (.int c3), .val (.ref b658), .val (.ref am708), .val (.int k0), .val (.int k1), .val (.int k2), .unset, .unset, .unset, .unset, .unset] [(.int c3)])) _
          by_cases hb3 : own_bl c3
          · obtain ⟨_, _, ⟨T778, L778, k778, n778⟩, -, X778, ⟨Lc778, hQ778, l778, y778, z778⟩, st778⟩ := Jvm.LawKit.callS Xj717 hx (y := (⟨"com/example/kerbline/kerbline/InputFileTrimBlanksPinLaw", "blank", "(C)Z"⟩ : MethodName)) hownj717 (mvT hZj717 (hw _ (List.mem_of_getElem? (i := 70) rfl))) (mvT hZj717 (hw _ (List.mem_of_getElem? (i := 71) rfl))) (mvT hZj717 (hw _ (List.mem_of_getElem? (i := 3) rfl))) (mvT hZj717 (hw _ (List.mem_of_getElem? (i := 72) rfl))) (by decide) (own_backN (W := 0) (rm_bla l Z a0 hw [] c3 hj717 n0 Zj717) hZj717 (hw _ (List.mem_of_getElem? (i := 72) rfl)) (hw _ (List.mem_of_getElem? (i := 3) rfl)) (by decide) (by decide)) (g := (mkF m 143 #[.val (.int p1), .val (.int p2), .val (.int p3), .val (.int p4), .val (.int p5), .val (.int (Int32.ofNat nn)), .val (.int c0), .val (.int c1), .val (.int c2), .val (.int c3), .val (.ref b658), .val (.ref am708), .val (.int k0), .val (.int k1), .val (.int k2), .unset, .unset, .unset, .unset, .unset] [(.int c3)])) rfl (by rw [hml]; rfl) (argsL := [(.int c3)]) (rest := []) (lenOf lw_pd4 rfl) rfl (by show 2 * 0 + _ ≤ _; exact Nat.le_of_eq rfl) (hb hby at_143) (fun _ _ => ⟨rfl, ej717, Nat.le_of_ble_eq_true rfl, Nat.le_of_ble_eq_true rfl⟩)
            dsimp only [Pt.U, Pt.locs, Pt.cells, Pt.slots] at X778 l778 y778 z778 st778 hQ778
            subst l778 y778 z778
            rw [if_pos hb3] at hQ778
            obtain ⟨rfl, N778q, hh778⟩ := hQ778
            refine own_back st778 ?_
            have N778 := Fr.app Nj717 N778q
            show OwnGo p e below (T778.setTop (mkF m 146 #[.val (.int p1), .val (.int p2), .val (.int p3), .val (.int p4), .val (.int p5), .val (.int (Int32.ofNat nn)), .val (.int c0), .val (.int c1), .val (.int c2), .val (.int c3), .val (.ref b658), .val (.ref am708), .val (.int k0), .val (.int k1), .val (.int k2), .unset, .unset, .unset, .unset, .unset] [(.int (1 : Int32))])) _
            refine own_back (fun t k => XS.ifYes X778.here hx rfl (pc0 := 146) (pc' := 153) rfl (hb hby at_146) rfl (Jvm.Free.XT.i0_ne_t (by decide)) (by decide) (by decide) k) ?_
            show OwnGo p e below (T778.setTop (mkF m 153 #[.val (.int p1), .val (.int p2), .val (.int p3), .val (.int p4), .val (.int p5), .val (.int (Int32.ofNat nn)), .val (.int c0), .val (.int c1), .val (.int c2), .val (.int c3), .val (.ref b658), .val (.ref am708), .val (.int k0), .val (.int k1), .val (.int k2), .unset, .unset, .unset, .unset, .unset] [])) _
            refine own_back (fun t k => XS.iconst X778.here hx rfl (hb hby at_153) k) ?_
            show OwnGo p e below (T778.setTop (mkF m 154 #[.val (.int p1), .val (.int p2), .val (.int p3), .val (.int p4), .val (.int p5), .val (.int (Int32.ofNat nn)), .val (.int c0), .val (.int c1), .val (.int c2), .val (.int c3), .val (.ref b658), .val (.ref am708), .val (.int k0), .val (.int k1), .val (.int k2), .unset, .unset, .unset, .unset, .unset] [(.int (0 : Int32))])) _
            exact tl154_718 _ _ _ ⟨_, _, _, X778, hh778, hSj717, hkj717, hZj717, hownj717, CRj717, Oj717, KPj717, Zj717, N778⟩ hs717_0 hs717_1 (if_neg (fun q => q.2 hb3)).symm
          · obtain ⟨_, _, ⟨T779, L779, k779, n779⟩, -, X779, ⟨Lc779, hQ779, l779, y779, z779⟩, st779⟩ := Jvm.LawKit.callS Xj717 hx (y := (⟨"com/example/kerbline/kerbline/InputFileTrimBlanksPinLaw", "blank", "(C)Z"⟩ : MethodName)) hownj717 (mvT hZj717 (hw _ (List.mem_of_getElem? (i := 70) rfl))) (mvT hZj717 (hw _ (List.mem_of_getElem? (i := 71) rfl))) (mvT hZj717 (hw _ (List.mem_of_getElem? (i := 3) rfl))) (mvT hZj717 (hw _ (List.mem_of_getElem? (i := 72) rfl))) (by decide) (own_backN (W := 0) (rm_bla l Z a0 hw [] c3 hj717 n0 Zj717) hZj717 (hw _ (List.mem_of_getElem? (i := 72) rfl)) (hw _ (List.mem_of_getElem? (i := 3) rfl)) (by decide) (by decide)) (g := (mkF m 143 #[.val (.int p1), .val (.int p2), .val (.int p3), .val (.int p4), .val (.int p5), .val (.int (Int32.ofNat nn)), .val (.int c0), .val (.int c1), .val (.int c2), .val (.int c3), .val (.ref b658), .val (.ref am708), .val (.int k0), .val (.int k1), .val (.int k2), .unset, .unset, .unset, .unset, .unset] [(.int c3)])) rfl (by rw [hml]; rfl) (argsL := [(.int c3)]) (rest := []) (lenOf lw_pd4 rfl) rfl (by show 2 * 0 + _ ≤ _; exact Nat.le_of_eq rfl) (hb hby at_143) (fun _ _ => ⟨rfl, ej717, Nat.le_of_ble_eq_true rfl, Nat.le_of_ble_eq_true rfl⟩)
            dsimp only [Pt.U, Pt.locs, Pt.cells, Pt.slots] at X779 l779 y779 z779 st779 hQ779
            subst l779 y779 z779
            rw [if_neg hb3] at hQ779
            obtain ⟨rfl, N779q, hh779⟩ := hQ779
            refine own_back st779 ?_
            have N779 := Fr.app Nj717 N779q
            show OwnGo p e below (T779.setTop (mkF m 146 #[.val (.int p1), .val (.int p2), .val (.int p3), .val (.int p4), .val (.int p5), .val (.int (Int32.ofNat nn)), .val (.int c0), .val (.int c1), .val (.int c2), .val (.int c3), .val (.ref b658), .val (.ref am708), .val (.int k0), .val (.int k1), .val (.int k2), .unset, .unset, .unset, .unset, .unset] [(.int (0 : Int32))])) _
            refine own_back (fun t k => XS.ifNo X779.here hx rfl (hb hby at_146) rfl (Jvm.Free.XT.i0_ne_f (by decide)) k) ?_
            show OwnGo p e below (T779.setTop (mkF m 149 #[.val (.int p1), .val (.int p2), .val (.int p3), .val (.int p4), .val (.int p5), .val (.int (Int32.ofNat nn)), .val (.int c0), .val (.int c1), .val (.int c2), .val (.int c3), .val (.ref b658), .val (.ref am708), .val (.int k0), .val (.int k1), .val (.int k2), .unset, .unset, .unset, .unset, .unset] [])) _
            refine own_back (fun t k => XS.iconst X779.here hx rfl (hb hby at_149) k) ?_
            show OwnGo p e below (T779.setTop (mkF m 150 #[.val (.int p1), .val (.int p2), .val (.int p3), .val (.int p4), .val (.int p5), .val (.int (Int32.ofNat nn)), .val (.int c0), .val (.int c1), .val (.int c2), .val (.int c3), .val (.ref b658), .val (.ref am708), .val (.int k0), .val (.int k1), .val (.int k2), .unset, .unset, .unset, .unset, .unset] [(.int (1 : Int32))])) _
            refine own_back (fun t k => XS.goto X779.here hx rfl (pc0 := 150) (pc' := 154) rfl (hb hby at_150) (by decide) (by decide) k) ?_
            show OwnGo p e below (T779.setTop (mkF m 154 #[.val (.int p1), .val (.int p2), .val (.int p3), .val (.int p4), .val (.int p5), .val (.int (Int32.ofNat nn)), .val (.int c0), .val (.int c1), .val (.int c2), .val (.int c3), .val (.ref b658), .val (.ref am708), .val (.int k0), .val (.int k1), .val (.int k2), .unset, .unset, .unset, .unset, .unset] [(.int (1 : Int32))])) _
            exact tl154_718 _ _ _ ⟨_, _, _, X779, hh779, hSj717, hkj717, hZj717, hownj717, CRj717, Oj717, KPj717, Zj717, N779⟩ hs717_0 hs717_1 (if_pos ⟨(own_ltn (by omega) (by omega) hc138_777), hb3⟩).symm
        · refine own_back (fun t k => XS.icmpYes Xj717.here hx rfl (pc0 := 138) (pc' := 153) rfl (hb hby at_138) rfl (Jvm.Free.XT.ii_le_t hc138_777) (by decide) (by decide) k) ?_
          show OwnGo p e below (Tj717.setTop (mkF m 153 #[.val (.int p1), .val (.int p2), .val (.int p3), .val (.int p4), .val (.int p5), .val (.int (Int32.ofNat nn)), .val (.int c0), .val (.int c1), .val (.int c2), .val (.int c3), .val (.ref b658), .val (.ref am708), .val (.int k0), .val (.int k1), .val (.int k2), .unset, .unset, .unset, .unset, .unset] [])) _
          refine own_back (fun t k => XS.iconst Xj717.here hx rfl (hb hby at_153) k) ?_
          show OwnGo p e below (Tj717.setTop (mkF m 154 #[.val (.int p1), .val (.int p2), .val (.int p3), .val (.int p4), .val (.int p5), .val (.int (Int32.ofNat nn)), .val (.int c0), .val (.int c1), .val (.int c2), .val (.int c3), .val (.ref b658), .val (.ref am708), .val (.int k0), .val (.int k1), .val (.int k2), .unset, .unset, .unset, .unset, .unset] [(.int (0 : Int32))])) _
          exact tl154_718 _ _ _ ⟨_, _, _, Xj717, ej717, hSj717, hkj717, hZj717, hownj717, CRj717, Oj717, KPj717, Zj717, Nj717⟩ hs717_0 hs717_1 (if_neg (fun q => hc138_777 (own_lti (by omega) q.1))).symm
      refine own_back (fun t k => XS.iload Xj716.here hx rfl (hb hby at_114) rfl k) ?_
      show OwnGo p e below (Tj716.setTop (mkF m 116 #[.val (.int p1), .val (.int p2), .val (.int p3), .val (.int p4), .val (.int p5), .val (.int (Int32.ofNat nn)), .val (.int c0), .val (.int c1), .val (.int c2), .val (.int c3), .val (.ref b658), .val (.ref am708), .val (.int k0), .val (.int k1), .unset, .unset, .unset, .unset, .unset, .unset] [(.int (Int32.ofNat nn))])) _
      refine own_back (fun t k => XS.iconst Xj716.here hx rfl (hb hby at_116) k) ?_
      show OwnGo p e below (Tj716.setTop (mkF m 117 #[.val (.int p1), .val (.int p2), .val (.int p3), .val (.int p4), .val (.int p5), .val (.int (Int32.ofNat nn)), .val (.int c0), .val (.int c1), .val (.int c2), .val (.int c3), .val (.ref b658), .val (.ref am708), .val (.int k0), .val (.int k1), .unset, .unset, .unset, .unset, .unset, .unset] [(.int (2 : Int32)), (.int (Int32.ofNat nn))])) _
      by_cases hc117_780 : (2 : Int32) < (Int32.ofNat nn)
      · refine own_back (fun t k => XS.icmpNo Xj716.here hx rfl (hb hby at_117) rfl (Jvm.Free.XT.ii_le_f hc117_780) k) ?_
        show OwnGo p e below (Tj716.setTop (mkF m 120 #[.val (.int p1), .val (.int p2), .val (.int p3), .val (.int p4), .val (.int p5), .val (.int (Int32.ofNat nn)), .val (.int c0), .val (.int c1), .val (.int c2), .val (.int c3), .val (.ref b658), .val (.ref am708), .val (.int k0), .val (.int k1), .unset, .unset, .unset, .unset, .unset, .unset] [])) _
        refine own_back (fun t k => XS.iload Xj716.here hx rfl (hb hby at_120) rfl k) ?_
        show OwnGo p e below (Tj716.setTop (mkF m 122 #[.val (.int p1), .val (.int p2), .val (.int p3), .val (.int p4), .val (.int p5), .val (.int (Int32.ofNat nn)), .val (.int c0), .val (.int c1), .val (.int c2), .val (.int c3), .val (.ref b658), .val (.ref am708), .val (.int k0), .val (.int k1), .unset, .unset, .unset, .unset, .unset, .unset] [(.int c2)])) _
        by_cases hb2 : own_bl c2
        · obtain ⟨_, _, ⟨T781, L781, k781, n781⟩, -, X781, ⟨Lc781, hQ781, l781, y781, z781⟩, st781⟩ := Jvm.LawKit.callS Xj716 hx (y := (⟨"com/example/kerbline/kerbline/InputFileTrimBlanksPinLaw", "blank", "(C)Z"⟩ : MethodName)) hownj716 (mvT hZj716 (hw _ (List.mem_of_getElem? (i := 70) rfl))) (mvT hZj716 (hw _ (List.mem_of_getElem? (i := 71) rfl))) (mvT hZj716 (hw _ (List.mem_of_getElem? (i := 3) rfl))) (mvT hZj716 (hw _ (List.mem_of_getElem? (i := 72) rfl))) (by decide) (own_backN (W := 0) (rm_bla l Z a0 hw [] c2 hj716 n0 Zj716) hZj716 (hw _ (List.mem_of_getElem? (i := 72) rfl)) (hw _ (List.mem_of_getElem? (i := 3) rfl)) (by decide) (by decide)) (g := (mkF m 122 #[.val (.int p1), .val (.int p2), .val (.int p3), .val (.int p4), .val (.int p5), .val (.int (Int32.ofNat nn)), .val (.int c0), .val (.int c1), .val (.int c2), .val (.int c3), .val (.ref b658), .val (.ref am708), .val (.int k0), .val (.int k1), .unset, .unset, .unset, .unset, .unset, .unset] [(.int c2)])) rfl (by rw [hml]; rfl) (argsL := [(.int c2)]) (rest := []) (lenOf lw_pd4 rfl) rfl (by show 2 * 0 + _ ≤ _; exact Nat.le_of_eq rfl) (hb hby at_122) (fun _ _ => ⟨rfl, ej716, Nat.le_of_ble_eq_true rfl, Nat.le_of_ble_eq_true rfl⟩)
          dsimp only [Pt.U, Pt.locs, Pt.cells, Pt.slots] at X781 l781 y781 z781 st781 hQ781
          subst l781 y781 z781
          rw [if_pos hb2] at hQ781
          obtain ⟨rfl, N781q, hh781⟩ := hQ781
          refine own_back st781 ?_
          have N781 := Fr.app Nj716 N781q
          show OwnGo p e below (T781.setTop (mkF m 125 #[.val (.int p1), .val (.int p2), .val (.int p3), .val (.int p4), .val (.int p5), .val (.int (Int32.ofNat nn)), .val (.int c0), .val (.int c1), .val (.int c2), .val (.int c3), .val (.ref b658), .val (.ref am708), .val (.int k0), .val (.int k1), .unset, .unset, .unset, .unset, .unset, .unset] [(.int (1 : Int32))])) _
          refine own_back (fun t k => XS.ifYes X781.here hx rfl (pc0 := 125) (pc' := 132) rfl (hb hby at_125) rfl (Jvm.Free.XT.i0_ne_t (by decide)) (by decide) (by decide) k) ?_
          show OwnGo p e below (T781.setTop (mkF m 132 #[.val (.int p1), .val (.int p2), .val (.int p3), .val (.int p4), .val (.int p5), .val (.int (Int32.ofNat nn)), .val (.int c0), .val (.int c1), .val (.int c2), .val (.int c3), .val (.ref b658), .val (.ref am708), .val (.int k0), .val (.int k1), .unset, .unset, .unset, .unset, .unset, .unset] [])) _
          refine own_back (fun t k => XS.iconst X781.here hx rfl (hb hby at_132) k) ?_
          show OwnGo p e below (T781.setTop (mkF m 133 #[.val (.int p1), .val (.int p2), .val (.int p3), .val (.int p4), .val (.int p5), .val (.int (Int32.ofNat nn)), .val (.int c0), .val (.int c1), .val (.int c2), .val (.int c3), .val (.ref b658), .val (.ref am708), .val (.int k0), .val (.int k1), .unset, .unset, .unset, .unset, .unset, .unset] [(.int (0 : Int32))])) _
          exact tl133_717 _ _ _ ⟨_, _, _, X781, hh781, hSj716, hkj716, hZj716, hownj716, CRj716, Oj716, KPj716, Zj716, N781⟩ hs716_0 hs716_1 (if_neg (fun q => q.2 hb2)).symm
        · obtain ⟨_, _, ⟨T782, L782, k782, n782⟩, -, X782, ⟨Lc782, hQ782, l782, y782, z782⟩, st782⟩ := Jvm.LawKit.callS Xj716 hx (y := (⟨"com/example/kerbline/kerbline/InputFileTrimBlanksPinLaw", "blank", "(C)Z"⟩ : MethodName)) hownj716 (mvT hZj716 (hw _ (List.mem_of_getElem? (i := 70) rfl))) (mvT hZj716 (hw _ (List.mem_of_getElem? (i := 71) rfl))) (mvT hZj716 (hw _ (List.mem_of_getElem? (i := 3) rfl))) (mvT hZj716 (hw _ (List.mem_of_getElem? (i := 72) rfl))) (by decide) (own_backN (W := 0) (rm_bla l Z a0 hw [] c2 hj716 n0 Zj716) hZj716 (hw _ (List.mem_of_getElem? (i := 72) rfl)) (hw _ (List.mem_of_getElem? (i := 3) rfl)) (by decide) (by decide)) (g := (mkF m 122 #[.val (.int p1), .val (.int p2), .val (.int p3), .val (.int p4), .val (.int p5), .val (.int (Int32.ofNat nn)), .val (.int c0), .val (.int c1), .val (.int c2), .val (.int c3), .val (.ref b658), .val (.ref am708), .val (.int k0), .val (.int k1), .unset, .unset, .unset, .unset, .unset, .unset] [(.int c2)])) rfl (by rw [hml]; rfl) (argsL := [(.int c2)]) (rest := []) (lenOf lw_pd4 rfl) rfl (by show 2 * 0 + _ ≤ _; exact Nat.le_of_eq rfl) (hb hby at_122) (fun _ _ => ⟨rfl, ej716, Nat.le_of_ble_eq_true rfl, Nat.le_of_ble_eq_true rfl⟩)
          dsimp only [Pt.U, Pt.locs, Pt.cells, Pt.slots] at X782 l782 y782 z782 st782 hQ782
          subst l782 y782 z782
          rw [if_neg hb2] at hQ782
          obtain ⟨rfl, N782q, hh782⟩ := hQ782
          refine own_back st782 ?_
          have N782 := Fr.app Nj716 N782q
          show OwnGo p e below (T782.setTop (mkF m 125 #[.val (.int p1), .val (.int p2), .val (.int p3), .val (.int p4), .val (.int p5), .val (.int (Int32.ofNat nn)), .val (.int c0), .val (.int c1), .val (.int c2), .val (.int c3), .val (.ref b658), .val (.ref am708), .val (.int k0), .val (.int k1), .unset, .unset, .unset, .unset, .unset, .unset] [(.int (0 : Int32))])) _
          refine own_back (fun t k => XS.ifNo X782.here hx rfl (hb hby at_125) rfl (Jvm.Free.XT.i0_ne_f (by decide)) k) ?_
          show OwnGo p e below (T782.setTop (mkF m 128 #[.val (.int p1), .val (.int p2), .val (.int p3), .val (.int p4), .val (.int p5), .val (.int (Int32.ofNat nn)), .val (.int c0), .val (.int c1), .val (.int c2), .val (.int c3), .val (.ref b658), .val (.ref am708), .val (.int k0), .val (.int k1), .unset, .unset, .unset, .unset, .unset, .unset] [])) _
          refine own_back (fun t k => XS.iconst X782.here hx rfl (hb hby at_128) k) ?_
          show OwnGo p e below (T782.setTop (mkF m 129 #[.val (.int p1), .val (.int p2), .val (.int p3), .val (.int p4), .val (.int p5), .val (.int (Int32.ofNat nn)), .val (.int c0), .val (.int c1), .val (.int c2), .val (.int c3), .val (.ref b658), .val (.ref am708), .val (.int k0), .val (.int k1), .unset, .unset, .unset, .unset, .unset, .unset] [(.int (1 : Int32))])) _
          refine own_back (fun t k => XS.goto X782.here hx rfl (pc0 := 129) (pc' := 133) rfl (hb hby at_129) (by decide) (by decide) k) ?_
          show OwnGo p e below (T782.setTop (mkF m 133 #[.val (.int p1), .val (.int p2), .val (.int p3), .val (.int p4), .val (.int p5), .val (.int (Int32.ofNat nn)), .val (.int c0), .val (.int c1), .val (.int c2), .val (.int c3), .val (.ref b658), .val (.ref am708), .val (.int k0), .val (.int k1), .unset, .unset, .unset, .unset, .unset, .unset] [(.int (1 : Int32))])) _
          exact tl133_717 _ _ _ ⟨_, _, _, X782, hh782, hSj716, hkj716, hZj716, hownj716, CRj716, Oj716, KPj716, Zj716, N782⟩ hs716_0 hs716_1 (if_pos ⟨(own_ltn (by omega) (by omega) hc117_780), hb2⟩).symm
      · refine own_back (fun t k => XS.icmpYes Xj716.here hx rfl (pc0 := 117) (pc' := 132) rfl (hb hby at_117) rfl (Jvm.Free.XT.ii_le_t hc117_780) (by decide) (by decide) k) ?_
        show OwnGo p e below (Tj716.setTop (mkF m 132 #[.val (.int p1), .val (.int p2), .val (.int p3), .val (.int p4), .val (.int p5), .val (.int (Int32.ofNat nn)), .val (.int c0), .val (.int c1), .val (.int c2), .val (.int c3), .val (.ref b658), .val (.ref am708), .val (.int k0), .val (.int k1), .unset, .unset, .unset, .unset, .unset, .unset] [])) _
        refine own_back (fun t k => XS.iconst Xj716.here hx rfl (hb hby at_132) k) ?_
        show OwnGo p e below (Tj716.setTop (mkF m 133 #[.val (.int p1), .val (.int p2), .val (.int p3), .val (.int p4), .val (.int p5), .val (.int (Int32.ofNat nn)), .val (.int c0), .val (.int c1), .val (.int c2), .val (.int c3), .val (.ref b658), .val (.ref am708), .val (.int k0), .val (.int k1), .unset, .unset, .unset, .unset, .unset, .unset] [(.int (0 : Int32))])) _
        exact tl133_717 _ _ _ ⟨_, _, _, Xj716, ej716, hSj716, hkj716, hZj716, hownj716, CRj716, Oj716, KPj716, Zj716, Nj716⟩ hs716_0 hs716_1 (if_neg (fun q => hc117_780 (own_lti (by omega) q.1))).symm
    refine own_back (fun t k => XS.iload Xj715.here hx rfl (hb hby at_93) rfl k) ?_
    show OwnGo p e below (Tj715.setTop (mkF m 95 #[.val (.int p1), .val (.int p2), .val (.int p3), .val (.int p4), .val (.int p5), .val (.int (Int32.ofNat nn)), .val (.int c0), .val (.int c1), .val (.int c2), .val (.int c3), .val (.ref b658), .val (.ref am708), .val (.int k0), .unset, .unset, .unset, .unset, .unset, .unset, .unset] [(.int (Int32.ofNat nn))])) _
    refine own_back (fun t k => XS.iconst Xj715.here hx rfl (hb hby at_95) k) ?_
    show OwnGo p e below (Tj715.setTop (mkF m 96 #[.val (.int p1), .val (.int p2), .val (.int p3), .val (.int p4), .val (.int p5), .val (.int (Int32.ofNat nn)), .val (.int c0), .val (.int c1), .val (.int c2), .val (.int c3), .val (.ref b658), .val (.ref am708), .val (.int k0), .unset, .unset, .unset, .unset, .unset, .unset, .unset] [(.int (1 : Int32)), (.int (Int32.ofNat nn))])) _
    by_cases hc96_783 : (1 : Int32) < (Int32.ofNat nn)
    · refine own_back (fun t k => XS.icmpNo Xj715.here hx rfl (hb hby at_96) rfl (Jvm.Free.XT.ii_le_f hc96_783) k) ?_
      show OwnGo p e below (Tj715.setTop (mkF m 99 #[.val (.int p1), .val (.int p2), .val (.int p3), .val (.int p4), .val (.int p5), .val (.int (Int32.ofNat nn)), .val (.int c0), .val (.int c1), .val (.int c2), .val (.int c3), .val (.ref b658), .val (.ref am708), .val (.int k0), .unset, .unset, .unset, .unset, .unset, .unset, .unset] [])) _
      refine own_back (fun t k => XS.iload Xj715.here hx rfl (hb hby at_99) rfl k) ?_
      show OwnGo p e below (Tj715.setTop (mkF m 101 #[.val (.int p1), .val (.int p2), .val (.int p3), .val (.int p4), .val (.int p5), .val (.int (Int32.ofNat nn)), .val (.int c0), .val (.int c1), .val (.int c2), .val (.int c3), .val (.ref b658), .val (.ref am708), .val (.int k0), .unset, .unset, .unset, .unset, .unset, .unset, .unset] [(.int c1)])) _
      by_cases hb1 : own_bl c1
      · obtain ⟨_, _, ⟨T784, L784, k784, n784⟩, -, X784, ⟨Lc784, hQ784, l784, y784, z784⟩, st784⟩ := Jvm.LawKit.callS Xj715 hx (y := (⟨"com/example/kerbline/kerbline/InputFileTrimBlanksPinLaw", "blank", "(C)Z"⟩ : MethodName)) hownj715 (mvT hZj715 (hw _ (List.mem_of_getElem? (i := 70) rfl))) (mvT hZj715 (hw _ (List.mem_of_getElem? (i := 71) rfl))) (mvT hZj715 (hw _ (List.mem_of_getElem? (i := 3) rfl))) (mvT hZj715 (hw _ (List.mem_of_getElem? (i := 72) rfl))) (by decide) (own_backN (W := 0) (rm_bla l Z a0 hw [] c1 hj715 n0 Zj715) hZj715 (hw _ (List.mem_of_getElem? (i := 72) rfl)) (hw _ (List.mem_of_getElem? (i := 3) rfl)) (by decide) (by decide)) (g := (mkF m 101 #[.val (.int p1), .val (.int p2), .val (.int p3), .val (.int p4), .val (.int p5), .val (.int (Int32.ofNat nn)), .val (.int c0), .val (.int c1), .val (.int c2), .val (.int c3), .val (.ref b658), .val (.ref am708), .val (.int k0), .unset, .unset, .unset, .unset, .unset, .unset, .unset] [(.int c1)])) rfl (by rw [hml]; rfl) (argsL := [(.int c1)]) (rest := []) (lenOf lw_pd4 rfl) rfl (by show 2 * 0 + _ ≤ _; exact Nat.le_of_eq rfl) (hb hby at_101) (fun _ _ => ⟨rfl, ej715, Nat.le_of_ble_eq_true rfl, Nat.le_of_ble_eq_true rfl⟩)
        dsimp only [Pt.U, Pt.locs, Pt.cells, Pt.slots] at X784 l784 y784 z784 st784 hQ784
        subst l784 y784 z784
        rw [if_pos hb1] at hQ784
        obtain ⟨rfl, N784q, hh784⟩ := hQ784
        refine own_back st784 ?_
        have N784 := Fr.app Nj715 N784q
        show OwnGo p e below (T784.setTop (mkF m 104 #[.val (.int p1), .val (.int p2), .val (.int p3), .val (.int p4), .val (.int p5), .val (.int (Int32.ofNat nn)), .val (.int c0), .val (.int c1), .val (.int c2), .val (.int c3), .val (.ref b658), .val (.ref am708), .val (.int k0), .unset, .unset, .unset, .unset, .unset, .unset, .unset] [(.int (1 : Int32))])) _
        refine own_back (fun t k => XS.ifYes X784.here hx rfl (pc0 := 104) (pc' := 111) rfl (hb hby at_104) rfl (Jvm.Free.XT.i0_ne_t (by decide)) (by decide) (by decide) k) ?_
        show OwnGo p e below (T784.setTop (mkF m 111 #[.val (.int p1), .val (.int p2), .val (.int p3), .val (.int p4), .val (.int p5), .val (.int (Int32.ofNat nn)), .val (.int c0), .val (.int c1), .val (.int c2), .val (.int c3), .val (.ref b658), .val (.ref am708), .val (.int k0), .unset, .unset, .unset, .unset, .unset, .unset, .unset] [])) _
        refine own_back (fun t k => XS.iconst X784.here hx rfl (hb hby at_111) k) ?_
        show OwnGo p e below (T784.setTop (mkF m 112 #[.val (.int p1), .val (.int p2), .val (.int p3), .val (.int p4), .val (.int p5), .val (.int (Int32.ofNat nn)), .val (.int c0), .val (.int c1), .val (.int c2), .val (.int c3), .val (.ref b658), .val (.ref am708), .val (.int k0), .unset, .unset, .unset, .unset, .unset, .unset, .unset] [(.int (0 : Int32))])) _
        exact tl112_716 _ _ _ ⟨_, _, _, X784, hh784, hSj715, hkj715, hZj715, hownj715, CRj715, Oj715, KPj715, Zj715, N784⟩ hs715_0 hs715_1 (if_neg (fun q => q.2 hb1)).symm
      · obtain ⟨_, _, ⟨T785, L785, k785, n785⟩, -, X785, ⟨Lc785, hQ785, l785, y785, z785⟩, st785⟩ := Jvm.LawKit.callS Xj715 hx (y := (⟨"com/example/kerbline/kerbline/InputFileTrimBlanksPinLaw", "blank", "(C)Z"⟩ : MethodName)) hownj715 (mvT hZj715 (hw _ (List.mem_of_getElem? (i := 70) rfl))) (mvT hZj715 (hw _ (List.mem_of_getElem? (i := 71) rfl))) (mvT hZj715 (hw _ (List.mem_of_getElem? (i := 3) rfl))) (mvT hZj715 (hw _ (List.mem_of_getElem? (i := 72) rfl))) (by decide) (own_backN (W := 0) (rm_bla l Z a0 hw [] c1 hj715 n0 Zj715) hZj715 (hw _ (List.mem_of_getElem? (i := 72) rfl)) (hw _ (List.mem_of_getElem? (i := 3) rfl)) (by decide) (by decide)) (g := (mkF m 101 #[.val (.int p1), .val (.int p2), .val (.int p3), .val (.int p4), .val (.int p5), .val (.int (Int32.ofNat nn)), .val (.int c0), .val (.int c1), .val (.int c2), .val (.int c3), .val (.ref b658), .val (.ref am708), .val (.int k0), .unset, .unset, .unset, .unset, .unset, .unset, .unset] [(.int c1)])) rfl (by rw [hml]; rfl) (argsL := [(.int c1)]) (rest := []) (lenOf lw_pd4 rfl) rfl (by show 2 * 0 + _ ≤ _; exact Nat.le_of_eq rfl) (hb hby at_101) (fun _ _ => ⟨rfl, ej715, Nat.le_of_ble_eq_true rfl, Nat.le_of_ble_eq_true rfl⟩)
        dsimp only [Pt.U, Pt.locs, Pt.cells, Pt.slots] at X785 l785 y785 z785 st785 hQ785
        subst l785 y785 z785
        rw [if_neg hb1] at hQ785
        obtain ⟨rfl, N785q, hh785⟩ := hQ785
        refine own_back st785 ?_
        have N785 := Fr.app Nj715 N785q
        show OwnGo p e below (T785.setTop (mkF m 104 #[.val (.int p1), .val (.int p2), .val (.int p3), .val (.int p4), .val (.int p5), .val (.int (Int32.ofNat nn)), .val (.int c0), .val (.int c1), .val (.int c2), .val (.int c3), .val (.ref b658), .val (.ref am708), .val (.int k0), .unset, .unset, .unset, .unset, .unset, .unset, .unset] [(.int (0 : Int32))])) _
        refine own_back (fun t k => XS.ifNo X785.here hx rfl (hb hby at_104) rfl (Jvm.Free.XT.i0_ne_f (by decide)) k) ?_
        show OwnGo p e below (T785.setTop (mkF m 107 #[.val (.int p1), .val (.int p2), .val (.int p3), .val (.int p4), .val (.int p5), .val (.int (Int32.ofNat nn)), .val (.int c0), .val (.int c1), .val (.int c2), .val (.int c3), .val (.ref b658), .val (.ref am708), .val (.int k0), .unset, .unset, .unset, .unset, .unset, .unset, .unset] [])) _
        refine own_back (fun t k => XS.iconst X785.here hx rfl (hb hby at_107) k) ?_
        show OwnGo p e below (T785.setTop (mkF m 108 #[.val (.int p1), .val (.int p2), .val (.int p3), .val (.int p4), .val (.int p5), .val (.int (Int32.ofNat nn)), .val (.int c0), .val (.int c1), .val (.int c2), .val (.int c3), .val (.ref b658), .val (.ref am708), .val (.int k0), .unset, .unset, .unset, .unset, .unset, .unset, .unset] [(.int (1 : Int32))])) _
        refine own_back (fun t k => XS.goto X785.here hx rfl (pc0 := 108) (pc' := 112) rfl (hb hby at_108) (by decide) (by decide) k) ?_
        show OwnGo p e below (T785.setTop (mkF m 112 #[.val (.int p1), .val (.int p2), .val (.int p3), .val (.int p4), .val (.int p5), .val (.int (Int32.ofNat nn)), .val (.int c0), .val (.int c1), .val (.int c2), .val (.int c3), .val (.ref b658), .val (.ref am708), .val (.int k0), .unset, .unset, .unset, .unset, .unset, .unset, .unset] [(.int (1 : Int32))])) _
        exact tl112_716 _ _ _ ⟨_, _, _, X785, hh785, hSj715, hkj715, hZj715, hownj715, CRj715, Oj715, KPj715, Zj715, N785⟩ hs715_0 hs715_1 (if_pos ⟨(own_ltn (by omega) (by omega) hc96_783), hb1⟩).symm
    · refine own_back (fun t k => XS.icmpYes Xj715.here hx rfl (pc0 := 96) (pc' := 111) rfl (hb hby at_96) rfl (Jvm.Free.XT.ii_le_t hc96_783) (by decide) (by decide) k) ?_
      show OwnGo p e below (Tj715.setTop (mkF m 111 #[.val (.int p1), .val (.int p2), .val (.int p3), .val (.int p4), .val (.int p5), .val (.int (Int32.ofNat nn)), .val (.int c0), .val (.int c1), .val (.int c2), .val (.int c3), .val (.ref b658), .val (.ref am708), .val (.int k0), .unset, .unset, .unset, .unset, .unset, .unset, .unset] [])) _
      refine own_back (fun t k => XS.iconst Xj715.here hx rfl (hb hby at_111) k) ?_
      show OwnGo p e below (Tj715.setTop (mkF m 112 #[.val (.int p1), .val (.int p2), .val (.int p3), .val (.int p4), .val (.int p5), .val (.int (Int32.ofNat nn)), .val (.int c0), .val (.int c1), .val (.int c2), .val (.int c3), .val (.ref b658), .val (.ref am708), .val (.int k0), .unset, .unset, .unset, .unset, .unset, .unset, .unset] [(.int (0 : Int32))])) _
      exact tl112_716 _ _ _ ⟨_, _, _, Xj715, ej715, hSj715, hkj715, hZj715, hownj715, CRj715, Oj715, KPj715, Zj715, Nj715⟩ hs715_0 hs715_1 (if_neg (fun q => hc96_783 (own_lti (by omega) q.1))).symm
  refine own_back (fun t k => XS.iload Xr708.here hx rfl (hb hby at_73) rfl k) ?_
  show OwnGo p e below (T708.setTop (mkF m 75 #[.val (.int p1), .val (.int p2), .val (.int p3), .val (.int p4), .val (.int p5), .val (.int (Int32.ofNat nn)), .val (.int c0), .val (.int c1), .val (.int c2), .val (.int c3), .val (.ref b658), .val (.ref am708), .unset, .unset, .unset, .unset, .unset, .unset, .unset, .unset] [(.int (Int32.ofNat nn))])) _
  by_cases hc75_786 : (0 : Int32) < (Int32.ofNat nn)
  · refine own_back (fun t k => XS.ifNo Xr708.here hx rfl (hb hby at_75) rfl (Jvm.Free.XT.i0_le_f hc75_786) k) ?_
    show OwnGo p e below (T708.setTop (mkF m 78 #[.val (.int p1), .val (.int p2), .val (.int p3), .val (.int p4), .val (.int p5), .val (.int (Int32.ofNat nn)), .val (.int c0), .val (.int c1), .val (.int c2), .val (.int c3), .val (.ref b658), .val (.ref am708), .unset, .unset, .unset, .unset, .unset, .unset, .unset, .unset] [])) _
    refine own_back (fun t k => XS.iload Xr708.here hx rfl (hb hby at_78) rfl k) ?_
    show OwnGo p e below (T708.setTop (mkF m 80 #[.val (.int p1), .val (.int p2), .val (.int p3), .val (.int p4), .val (.int p5), .val (.int (Int32.ofNat nn)), .val (.int c0), .val (.int c1), .val (.int c2), .val (.int c3), .val (.ref b658), .val (.ref am708), .unset, .unset, .unset, .unset, .unset, .unset, .unset, .unset] [(.int c0)])) _
    by_cases hb0 : own_bl c0
    · obtain ⟨_, _, ⟨T787, L787, k787, n787⟩, -, X787, ⟨Lc787, hQ787, l787, y787, z787⟩, st787⟩ := Jvm.LawKit.callS Xr708 hx (y := (⟨"com/example/kerbline/kerbline/InputFileTrimBlanksPinLaw", "blank", "(C)Z"⟩ : MethodName)) hownr708 (mvT hZr708 (hw _ (List.mem_of_getElem? (i := 70) rfl))) (mvT hZr708 (hw _ (List.mem_of_getElem? (i := 71) rfl))) (mvT hZr708 (hw _ (List.mem_of_getElem? (i := 3) rfl))) (mvT hZr708 (hw _ (List.mem_of_getElem? (i := 72) rfl))) (by decide) (own_backN (W := 0) (rm_bla l Z a0 hw [] c0 T708.heap n0 Zs711) hZr708 (hw _ (List.mem_of_getElem? (i := 72) rfl)) (hw _ (List.mem_of_getElem? (i := 3) rfl)) (by decide) (by decide)) (g := (mkF m 80 #[.val (.int p1), .val (.int p2), .val (.int p3), .val (.int p4), .val (.int p5), .val (.int (Int32.ofNat nn)), .val (.int c0), .val (.int c1), .val (.int c2), .val (.int c3), .val (.ref b658), .val (.ref am708), .unset, .unset, .unset, .unset, .unset, .unset, .unset, .unset] [(.int c0)])) rfl (by rw [hml]; rfl) (argsL := [(.int c0)]) (rest := []) (lenOf lw_pd4 rfl) rfl (by show 2 * 0 + _ ≤ _; exact Nat.le_of_eq rfl) (hb hby at_80) (fun _ _ => ⟨rfl, rfl, Nat.le_of_ble_eq_true rfl, Nat.le_of_ble_eq_true rfl⟩)
      dsimp only [Pt.U, Pt.locs, Pt.cells, Pt.slots] at X787 l787 y787 z787 st787 hQ787
      subst l787 y787 z787
      rw [if_pos hb0] at hQ787
      obtain ⟨rfl, N787q, hh787⟩ := hQ787
      refine own_back st787 ?_
      have N787 := Fr.app N708 N787q
      show OwnGo p e below (T787.setTop (mkF m 83 #[.val (.int p1), .val (.int p2), .val (.int p3), .val (.int p4), .val (.int p5), .val (.int (Int32.ofNat nn)), .val (.int c0), .val (.int c1), .val (.int c2), .val (.int c3), .val (.ref b658), .val (.ref am708), .unset, .unset, .unset, .unset, .unset, .unset, .unset, .unset] [(.int (1 : Int32))])) _
      refine own_back (fun t k => XS.ifYes X787.here hx rfl (pc0 := 83) (pc' := 90) rfl (hb hby at_83) rfl (Jvm.Free.XT.i0_ne_t (by decide)) (by decide) (by decide) k) ?_
      show OwnGo p e below (T787.setTop (mkF m 90 #[.val (.int p1), .val (.int p2), .val (.int p3), .val (.int p4), .val (.int p5), .val (.int (Int32.ofNat nn)), .val (.int c0), .val (.int c1), .val (.int c2), .val (.int c3), .val (.ref b658), .val (.ref am708), .unset, .unset, .unset, .unset, .unset, .unset, .unset, .unset] [])) _
      refine own_back (fun t k => XS.iconst X787.here hx rfl (hb hby at_90) k) ?_
      show OwnGo p e below (T787.setTop (mkF m 91 #[.val (.int p1), .val (.int p2), .val (.int p3), .val (.int p4), .val (.int p5), .val (.int (Int32.ofNat nn)), .val (.int c0), .val (.int c1), .val (.int c2), .val (.int c3), .val (.ref b658), .val (.ref am708), .unset, .unset, .unset, .unset, .unset, .unset, .unset, .unset] [(.int (0 : Int32))])) _
      exact tl91_715 _ _ _ ⟨_, _, _, X787, hh787, hSr708, (Nat.le_refl _), hZr708, hownr708, CR712, O709, KP710, Zs711, N787⟩ B708 f714 (if_neg (fun q => q.2 hb0)).symm
    · obtain ⟨_, _, ⟨T788, L788, k788, n788⟩, -, X788, ⟨Lc788, hQ788, l788, y788, z788⟩, st788⟩ := Jvm.LawKit.callS Xr708 hx (y := (⟨"com/example/kerbline/kerbline/InputFileTrimBlanksPinLaw", "blank", "(C)Z"⟩ : MethodName)) hownr708 (mvT hZr708 (hw _ (List.mem_of_getElem? (i := 70) rfl))) (mvT hZr708 (hw _ (List.mem_of_getElem? (i := 71) rfl))) (mvT hZr708 (hw _ (List.mem_of_getElem? (i := 3) rfl))) (mvT hZr708 (hw _ (List.mem_of_getElem? (i := 72) rfl))) (by decide) (own_backN (W := 0) (rm_bla l Z a0 hw [] c0 T708.heap n0 Zs711) hZr708 (hw _ (List.mem_of_getElem? (i := 72) rfl)) (hw _ (List.mem_of_getElem? (i := 3) rfl)) (by decide) (by decide)) (g := (mkF m 80 #[.val (.int p1), .val (.int p2), .val (.int p3), .val (.int p4), .val (.int p5), .val (.int (Int32.ofNat nn)), .val (.int c0), .val (.int c1), .val (.int c2), .val (.int c3), .val (.ref b658), .val (.ref am708), .unset, .unset, .unset, .unset, .unset, .unset, .unset, .unset] [(.int c0)])) rfl (by rw [hml]; rfl) (argsL := [(.int c0)]) (rest := []) (lenOf lw_pd4 rfl) rfl (by show 2 * 0 + _ ≤ _; exact Nat.le_of_eq rfl) (hb hby at_80) (fun _ _ => ⟨rfl, rfl, Nat.le_of_ble_eq_true rfl, Nat.le_of_ble_eq_true rfl⟩)
      dsimp only [Pt.U, Pt.locs, Pt.cells, Pt.slots] at X788 l788 y788 z788 st788 hQ788
      subst l788 y788 z788
      rw [if_neg hb0] at hQ788
      obtain ⟨rfl, N788q, hh788⟩ := hQ788
      refine own_back st788 ?_
      have N788 := Fr.app N708 N788q
      show OwnGo p e below (T788.setTop (mkF m 83 #[.val (.int p1), .val (.int p2), .val (.int p3), .val (.int p4), .val (.int p5), .val (.int (Int32.ofNat nn)), .val (.int c0), .val (.int c1), .val (.int c2), .val (.int c3), .val (.ref b658), .val (.ref am708), .unset, .unset, .unset, .unset, .unset, .unset, .unset, .unset] [(.int (0 : Int32))])) _
      refine own_back (fun t k => XS.ifNo X788.here hx rfl (hb hby at_83) rfl (Jvm.Free.XT.i0_ne_f (by decide)) k) ?_
      show OwnGo p e below (T788.setTop (mkF m 86 #[.val (.int p1), .val (.int p2), .val (.int p3), .val (.int p4), .val (.int p5), .val (.int (Int32.ofNat nn)), .val (.int c0), .val (.int c1), .val (.int c2), .val (.int c3), .val (.ref b658), .val (.ref am708), .unset, .unset, .unset, .unset, .unset, .unset, .unset, .unset] [])) _
      refine own_back (fun t k => XS.iconst X788.here hx rfl (hb hby at_86) k) ?_
      show OwnGo p e below (T788.setTop (mkF m 87 #[.val (.int p1), .val (.int p2), .val (.int p3), .val (.int p4), .val (.int p5), .val (.int (Int32.ofNat nn)), .val (.int c0), .val (.int c1), .val (.int c2), .val (.int c3), .val (.ref b658), .val (.ref am708), .unset, .unset, .unset, .unset, .unset, .unset, .unset, .unset] [(.int (1 : Int32))])) _
      refine own_back (fun t k => XS.goto X788.here hx rfl (pc0 := 87) (pc' := 91) rfl (hb hby at_87) (by decide) (by decide) k) ?_
      show OwnGo p e below (T788.setTop (mkF m 91 #[.val (.int p1), .val (.int p2), .val (.int p3), .val (.int p4), .val (.int p5), .val (.int (Int32.ofNat nn)), .val (.int c0), .val (.int c1), .val (.int c2), .val (.int c3), .val (.ref b658), .val (.ref am708), .unset, .unset, .unset, .unset, .unset, .unset, .unset, .unset] [(.int (1 : Int32))])) _
      exact tl91_715 _ _ _ ⟨_, _, _, X788, hh788, hSr708, (Nat.le_refl _), hZr708, hownr708, CR712, O709, KP710, Zs711, N788⟩ B708 f714 (if_pos ⟨(own_ltn (by omega) (by omega) hc75_786), hb0⟩).symm
  · refine own_back (fun t k => XS.ifYes Xr708.here hx rfl (pc0 := 75) (pc' := 90) rfl (hb hby at_75) rfl (Jvm.Free.XT.i0_le_t hc75_786) (by decide) (by decide) k) ?_
    show OwnGo p e below (T708.setTop (mkF m 90 #[.val (.int p1), .val (.int p2), .val (.int p3), .val (.int p4), .val (.int p5), .val (.int (Int32.ofNat nn)), .val (.int c0), .val (.int c1), .val (.int c2), .val (.int c3), .val (.ref b658), .val (.ref am708), .unset, .unset, .unset, .unset, .unset, .unset, .unset, .unset] [])) _
    refine own_back (fun t k => XS.iconst Xr708.here hx rfl (hb hby at_90) k) ?_
    show OwnGo p e below (T708.setTop (mkF m 91 #[.val (.int p1), .val (.int p2), .val (.int p3), .val (.int p4), .val (.int p5), .val (.int (Int32.ofNat nn)), .val (.int c0), .val (.int c1), .val (.int c2), .val (.int c3), .val (.ref b658), .val (.ref am708), .unset, .unset, .unset, .unset, .unset, .unset, .unset, .unset] [(.int (0 : Int32))])) _
    exact tl91_715 _ _ _ ⟨_, _, _, Xr708, rfl, hSr708, (Nat.le_refl _), hZr708, hownr708, CR712, O709, KP710, Zs711, N708⟩ B708 f714 (if_neg (fun q => hc75_786 (own_lti (by omega) q.1))).symm
set_option maxRecDepth 65536 in
set_option maxHeartbeats 40000000 in
theorem comes_1 {Post : Tables → Env → Array Value → State → Outcome → State → Prop} (hpost : ∀ tb e args s v u, (limb_1_1.after args s (.returned v) u = true ∧ limb_1_2.after args s (.returned v) u = true ∧ True) → ReturnedEndW s (.returned v) u (Jvm.fieldLocs frame_1_writes args s ++ Jvm.arrayLocs frame_1_arrays args s ++ Jvm.staticLocs frame_1_statics s) 24 2176 → Post tb e args s (.returned v) u) :
    ArmFor flags0 classFile x code maxLocals ret World_1 tables_1 room_1 Calls_1 rest_1 Pre_1 Post := by
  intro l hfl _ _ p e ha hc hk s m args below hf hA hF happ hP
  obtain ⟨hcalls, hrest, hpre⟩ := hP
  obtain ⟨-, -, -, hnamed, -, -, -, hat⟩ := (Spec.applies_iff hf).mp happ
  obtain ⟨hg, hn⟩ := and_e (Cond.before_iff.mp (show (Jvm.Cond.and given_1 narrow_1).before args s = true from hpre))
  obtain ⟨g1, g2⟩ := and_e hg
  obtain ⟨g3, g4⟩ := and_e g2
  obtain ⟨g5, g6⟩ := and_e g4
  obtain ⟨g7, g8⟩ := and_e g6
  obtain ⟨g9, g10⟩ := and_e g8
  obtain ⟨w0, w1, w2, w3, w4, rfl⟩ : ∃ w0 w1 w2 w3 w4 : Value, args = #[w0, w1, w2, w3, w4] := by
    have hs : args.size = 5 := by simpa [Cond.value, given_1] using g1
    obtain ⟨L⟩ := args
    match L, hs with
    | [w0, w1, w2, w3, w4], _ => exact ⟨w0, w1, w2, w3, w4, rfl⟩
  have hw := fun d (hd : d ∈ tables_1) => atoms_spec (ws := Jvm.Cond.code x code maxLocals ret :: tables_1) hat d (List.mem_cons_of_mem _ hd)
  have hfit : Fit s := fun {y c} hc i hi => by
    obtain ⟨ha, rfl⟩ := Array.getElem?_eq_some_iff.mp hc
    have q := List.all_eq_true.mp ((Array.all_eq_true_iff_forall_mem.mp hF) _ (Array.getElem_mem ha)) i (List.mem_range.mpr hi)
    simpa [Array.getElem?_eq_getElem hi] using q
  obtain ⟨hsets, hown0⟩ := atoms_of _ (rest_1_c_eq ▸ (show rest_1_c.before _ s = true from hrest))
  have hr0 := Cond.before_iff.mp hown0
  obtain ⟨i0, ei0⟩ := is_v g3
  obtain rfl : w0 = (.int i0) := Option.some.inj ei0
  obtain ⟨i1, ei1⟩ := is_v g5
  obtain rfl : w1 = (.int i1) := Option.some.inj ei1
  obtain ⟨i2, ei2⟩ := is_v g7
  obtain rfl : w2 = (.int i2) := Option.some.inj ei2
  obtain ⟨i3, ei3⟩ := is_v g9
  obtain rfl : w3 = (.int i3) := Option.some.inj ei3
  obtain ⟨i4, ei4⟩ := is_v g10
  obtain rfl : w4 = (.int i4) := Option.some.inj ei4
  obtain ⟨cz, ecz⟩ := is_v (Cond.before_iff.mp (hsets _ (List.mem_of_getElem? (i := 1) rfl)))
  have SC : Sta s s.heap "java/lang/String" "COMPACT_STRINGS" "Z" (.int cz) := Sta.start ecz (Or.inl (hsets _ (List.mem_of_getElem? (i := 0) rfl)))
  have ncz := not_v (Cond.before_iff.mp (hsets _ (List.mem_of_getElem? (i := 2) rfl)))
  have hcz : ¬ (cz = (0 : Int32)) := gotF (Cond.eq_ints ecz (Term.int_eval (0))) ncz
  obtain ⟨fm, efm, hfm⟩ := isR_v (Cond.before_iff.mp (hsets _ (List.mem_of_getElem? (i := 8) rfl)))
  have SO : Sta s s.heap "jdk/internal/util/Preconditions" "SIOOBE_FORMATTER" "Ljava/util/function/BiFunction;" fm := Sta.start efm (Or.inl (hsets _ (List.mem_of_getElem? (i := 7) rfl)))
  have hCH : CHv s own_EL s.vm s.heap := CHv.start (own_EW hw) (fun p hp => hcalls.1 p hp) (hsets _ (List.mem_of_getElem? (i := 2) rfl)) (hw _ (List.mem_of_getElem? (i := 23) rfl)) (hw _ (List.mem_of_getElem? (i := 10) rfl))
  obtain ⟨n, o, h1, h2, h3, _, L, rfl, ⟨rfl, N⟩, -, hq⟩ := rm_law l s _ hw tables_1 i0 i1 i2 i3 i4 cz fm s.heap s.heap.size (Nat.le_refl _) (Old.start s) SC hcz SO hfm p e ha hc hk s m _ below hf ((Spec.applies_iff_loose hf).mp happ).1 ⟨rfl, State.Warmed39.refl s, rfl, hCH, fun _ q => nomatch q⟩ trivial
  refine ⟨n, _, h1, h2, h3, hpost _ _ _ _ _ _ ⟨Cond.after_iff.mpr rfl, Cond.after_iff.mpr (eq_i res_at (Term.int_eval (1)) rfl), trivial⟩ ⟨hq.1, hq.2.1, hq.2.2.1, (hq.2.2.2.sift fun y hy => Or.inr (N y hy)).mono (by decide) (by decide)⟩⟩
theorem main_1_1 : Claimed_1_1 := comes_1 fun _ _ _ _ _ _ h hF => ⟨h.1, hF⟩
theorem main_1_2 : Claimed_1_2 := comes_1 fun _ _ _ _ _ _ h hF => ⟨h.2.1, hF⟩
end Jvm.Pilot.@@N@@
namespace Jvm.Pilot.@@N@@
open Jvm Jvm.ClassFile Sem Op Lib Jvm.Free Jvm.Stand Jvm.Pilot.@@N@@.Jvm.D
/-! MADE BY PROGRAM (witnessworld.py) out of the Statement's table words and the real class files: 24 classes; the members and pool entries that the words name. The judged class is class 1, her method 1. -/
namespace start1
open Jvm.ClassFile
def u (s : String) : CpInfo := .utf8 (stringToUtf16 s)
/-- a pool by its gaps: so many unusable entries, then the entry; so many at the end -/
def gap : Nat → List CpInfo → List CpInfo
  | 0, r => r
  | n + 1, r => .unusable :: gap n r
def poolList (es : List (Nat × CpInfo)) (last : Nat) : List CpInfo := es.foldr (fun e r => gap e.1 (e.2 :: r)) (gap last [])
def pool (es : List (Nat × CpInfo)) (last : Nat) : Array CpInfo := ⟨poolList es last⟩
def fileOf (pool : Array CpInfo) (this : Nat) (attrs : Array Attribute := #[]) (ms : Array MethodInfo := #[]) (fl : Nat := 33) (sup : Nat := 0) (ifs : Array Nat := #[]) (fds : Array FieldInfo := #[]) : ClassFile where
  minorVersion := 0
  majorVersion := 65
  constantPool := pool
  accessFlags := fl
  thisClass := this
  superClass := sup
  interfaces := ifs
  fields := fds
  methods := ms
  attributes := attrs
def plain (name : String) (sup : Option ClassId) : Class where
  name := name
  kind := .ordinary
  loader := none
  accessFlags := 33
  super := sup
  interfaces := #[]
  cf := none
  fields := #[]
  methods := #[]
  instanceTypes := #[]
  staticTypes := #[]
  resolved := #[]
  callSites := []
  init := .initialized
  statics := none
  mirror := none

def pool0 : Array CpInfo := pool [(5, u "<init>"), (0, u "()V"), (1, .class_ 10), (1, u "java/lang/Object")] 113

def k0c0 : Code := { maxStack := 0, maxLocals := 1, code := object_method_1_code, exceptionTable := #[], attributes := #[] }
def k0m0 : Method := { name := "<init>", desc := "()V", sig := { parameters := [], returnType := none }, accessFlags := 1, code := some k0c0 }
/-- java/lang/Object -/
def k0 : Class := { plain "java/lang/Object" none with
  accessFlags := 33
  interfaces := #[]
  cf := some (fileOf pool0 8 #[] #[{ accessFlags := 1, nameIndex := 5, descriptorIndex := 6, attributes := #[] }] 33 0 #[] #[])
  fields := #[]
  methods := #[k0m0]
  instanceTypes := #[]
  staticTypes := #[]
  resolved := Array.replicate 124 none
  statics := none }

def pool1 : Array CpInfo := pool [(2, .class_ 4), (1, u "java/lang/Object"), (0, u "<init>"), (0, u "()V"), (0, .integer 2147483647), (0, .methodref 9 10), (0, .class_ 11), (0, .nameAndType 12 13), (0, u "com/example/kerbline/kerbline/InputFileTrimBlanksPinLaw"), (0, u "ch"), (0, u "(I)C"), (0, .methodref 9 15), (0, .nameAndType 16 17), (0, u "make"), (0, u "(ICCCC)Ljava/lang/String;"), (0, .methodref 9 19), (0, .nameAndType 20 21), (0, u "blank"), (0, u "(C)Z"), (0, .methodref 23 24), (0, .class_ 25), (0, .nameAndType 26 27), (0, u "com/example/kerbline/kerbline/InputFile"), (0, u "trimBlanks"), (0, u "(Ljava/lang/String;)Ljava/lang/String;"), (0, .methodref 29 30), (0, .class_ 31), (0, .nameAndType 32 33), (0, u "java/lang/String"), (0, u "length"), (0, u "()I"), (0, .methodref 29 35), (0, .nameAndType 36 13), (0, u "charAt"), (0, .methodref 29 38), (0, .nameAndType 5 39), (0, u "([C)V"), (2, u "law"), (0, u "(IIIII)Z")] 5

def k1m0 : Method := { name := "<init>", desc := "()V", sig := { parameters := [], returnType := none }, accessFlags := 1, code := none }
def k1c1 : Code := { maxStack := 5, maxLocals := 20, code := code, exceptionTable := #[], attributes := #[] }
def k1m1 : Method := { name := "law", desc := "(IIIII)Z", sig := { parameters := [.int, .int, .int, .int, .int], returnType := some .boolean }, accessFlags := 9, code := some k1c1 }
def k1c2 : Code := { maxStack := 2, maxLocals := 1, code := method_3_code, exceptionTable := #[], attributes := #[] }
def k1m2 : Method := { name := "blank", desc := "(C)Z", sig := { parameters := [.char], returnType := some .boolean }, accessFlags := 10, code := some k1c2 }
def k1c3 : Code := { maxStack := 2, maxLocals := 2, code := method_4_code, exceptionTable := #[], attributes := #[] }
def k1m3 : Method := { name := "ch", desc := "(I)C", sig := { parameters := [.int], returnType := some .char }, accessFlags := 10, code := some k1c3 }
def k1c4 : Code := { maxStack := 6, maxLocals := 5, code := method_5_code, exceptionTable := #[], attributes := #[] }
def k1m4 : Method := { name := "make", desc := "(ICCCC)Ljava/lang/String;", sig := { parameters := [.int, .char, .char, .char, .char], returnType := some (.object "java/lang/String") }, accessFlags := 10, code := some k1c4 }
/-- com/example/kerbline/kerbline/InputFileTrimBlanksPinLaw -/
def k1 : Class := { plain "com/example/kerbline/kerbline/InputFileTrimBlanksPinLaw" (some 0) with
  accessFlags := 49
  interfaces := #[]
  cf := some (fileOf pool1 9 #[] #[{ accessFlags := 1, nameIndex := 5, descriptorIndex := 6, attributes := #[] }, { accessFlags := 9, nameIndex := 42, descriptorIndex := 43, attributes := #[] }, { accessFlags := 10, nameIndex := 20, descriptorIndex := 21, attributes := #[] }, { accessFlags := 10, nameIndex := 12, descriptorIndex := 13, attributes := #[] }, { accessFlags := 10, nameIndex := 16, descriptorIndex := 17, attributes := #[] }] 49 2 #[] #[])
  fields := #[]
  methods := #[k1m0, k1m1, k1m2, k1m3, k1m4]
  instanceTypes := #[]
  staticTypes := #[]
  resolved := Array.replicate 49 none
  statics := none }

def pool2 : Array CpInfo := pool [(1, .class_ 2), (0, u "java/io/Serializable"), (0, .class_ 4), (0, u "java/lang/Object")] 2

/-- java/io/Serializable -/
def k2 : Class := { plain "java/io/Serializable" (some 0) with
  accessFlags := 1537
  interfaces := #[]
  cf := some (fileOf pool2 1 #[] #[] 1537 3 #[] #[])
  fields := #[]
  methods := #[]
  instanceTypes := #[]
  staticTypes := #[]
  resolved := Array.replicate 7 none
  statics := none }

def pool3 : Array CpInfo := pool [(1, .class_ 2), (0, u "java/lang/Comparable"), (0, .class_ 4), (0, u "java/lang/Object")] 7

/-- java/lang/Comparable -/
def k3 : Class := { plain "java/lang/Comparable" (some 0) with
  accessFlags := 1537
  interfaces := #[]
  cf := some (fileOf pool3 1 #[] #[] 1537 3 #[] #[])
  fields := #[]
  methods := #[]
  instanceTypes := #[]
  staticTypes := #[]
  resolved := Array.replicate 12 none
  statics := none }

def pool4 : Array CpInfo := pool [(2, .class_ 4), (1, u "java/lang/CharSequence"), (42, .class_ 48), (0, u "java/lang/CharSequence$1CodePointIterator"), (10, .class_ 60), (0, u "java/lang/CharSequence$1CharIterator"), (5, .class_ 67), (0, u "java/lang/Object")] 63

/-- java/lang/CharSequence -/
def k4 : Class := { plain "java/lang/CharSequence" (some 0) with
  accessFlags := 1537
  interfaces := #[]
  cf := some (fileOf pool4 2 #[.nestMembers #[47, 59]] #[] 1537 66 #[] #[])
  fields := #[]
  methods := #[]
  instanceTypes := #[]
  staticTypes := #[]
  resolved := Array.replicate 131 none
  statics := none }

def pool5 : Array CpInfo := pool [(1, .class_ 2), (0, u "java/lang/constant/Constable"), (0, .class_ 4), (0, u "java/lang/Object")] 6

/-- java/lang/constant/Constable -/
def k5 : Class := { plain "java/lang/constant/Constable" (some 0) with
  accessFlags := 1537
  interfaces := #[]
  cf := some (fileOf pool5 1 #[] #[] 1537 3 #[] #[])
  fields := #[]
  methods := #[]
  instanceTypes := #[]
  staticTypes := #[]
  resolved := Array.replicate 11 none
  statics := none }

def pool6 : Array CpInfo := pool [(1, .class_ 2), (0, u "java/lang/constant/ConstantDesc"), (0, .class_ 4), (0, u "java/lang/Object")] 32

/-- java/lang/constant/ConstantDesc -/
def k6 : Class := { plain "java/lang/constant/ConstantDesc" (some 0) with
  accessFlags := 1537
  interfaces := #[]
  cf := some (fileOf pool6 1 #[] #[] 1537 3 #[] #[])
  fields := #[]
  methods := #[]
  instanceTypes := #[]
  staticTypes := #[]
  resolved := Array.replicate 37 none
  statics := none }

def pool7 : Array CpInfo := pool [(1, .methodref 2 3), (0, .class_ 4), (0, .nameAndType 5 6), (0, u "java/lang/Object"), (0, u "<init>"), (0, u "()V"), (0, .string 8), (0, u ""), (0, .fieldref 10 11), (0, .class_ 12), (0, .nameAndType 13 14), (0, u "java/lang/String"), (0, u "value"), (0, u "[B"), (0, .fieldref 10 16), (0, .nameAndType 17 18), (0, u "coder"), (0, u "B"), (2, u "hash"), (0, u "I"), (2, u "hashIsZero"), (0, u "Z"), (0, .methodref 10 28), (0, .nameAndType 5 29), (0, u "([CIILjava/lang/Void;)V"), (8, .fieldref 10 39), (0, .nameAndType 40 26), (0, u "COMPACT_STRINGS"), (1, .class_ 44), (1, u "java/lang/StringUTF16"), (0, u "compress"), (1, .methodref 42 48), (0, .nameAndType 49 50), (0, u "coderFromArrayLen"), (0, u "([BI)B"), (56, .class_ 109), (1, u "java/lang/StringLatin1"), (32, u "()Z"), (34, .methodref 42 178), (0, .nameAndType 45 179), (0, u "([CII)[B"), (31, u "([BB)V"), (122, u "()I"), (0, .methodref 10 336), (0, .nameAndType 17 337), (0, u "()B"), (25, u "([BI)C"), (27, u "(II)V"), (35, u "(I)C"), (64, .methodref 10 493), (0, .nameAndType 494 142), (0, u "isLatin1"), (0, .methodref 107 496), (0, .nameAndType 497 363), (0, u "charAt"), (3, u "checkIndex"), (3, .methodref 10 506), (0, .nameAndType 507 334), (0, u "length"), (5, u "checkFromToIndex"), (7, .methodref 10 522), (0, .nameAndType 523 524), (0, u "checkBoundsBeginEnd"), (0, u "(III)V"), (50, .class_ 576), (0, u "java/lang/CharSequence"), (22, u "CASE_INSENSITIVE_ORDER"), (0, u "Ljava/util/Comparator;"), (82, u "substring"), (0, u "(II)Ljava/lang/String;"), (0, .methodref 107 686), (0, .nameAndType 687 688), (0, u "newString"), (0, u "([BII)Ljava/lang/String;"), (321, u "([C)V"), (42, .fieldref 1054 1055), (0, .class_ 1056), (0, .nameAndType 1057 1058), (0, u "jdk/internal/util/Preconditions"), (0, u "SIOOBE_FORMATTER"), (0, u "Ljava/util/function/BiFunction;"), (0, .methodref 1054 1060), (0, .nameAndType 501 1061), (0, u "(IILjava/util/function/BiFunction;)I"), (0, .methodref 1054 1063), (0, .nameAndType 513 1064), (0, u "(IIILjava/util/function/BiFunction;)I"), (36, u "serialPersistentFields"), (0, u "[Ljava/io/ObjectStreamField;"), (0, .class_ 1104), (0, u "java/lang/String$CaseInsensitiveComparator"), (1, .class_ 1107), (0, u "java/io/Serializable"), (0, .class_ 1109), (0, u "java/lang/Comparable"), (0, .class_ 1111), (0, u "java/lang/constant/Constable"), (0, .class_ 1113), (0, u "java/lang/constant/ConstantDesc"), (2, u "serialVersionUID"), (0, u "J"), (3, u "REPL"), (0, u "C"), (2, u "LATIN1"), (1, u "UTF16")] 323

def k7m0 : Method := { name := "<init>", desc := "()V", sig := { parameters := [], returnType := none }, accessFlags := 1, code := none }
def k7c1 : Code := { maxStack := 5, maxLocals := 2, code := jdk_42_method_3_code, exceptionTable := #[], attributes := #[] }
def k7m1 : Method := { name := "<init>", desc := "([C)V", sig := { parameters := [(.array .char)], returnType := none }, accessFlags := 1, code := some k7c1 }
def k7c2 : Code := { maxStack := 2, maxLocals := 1, code := jdk_42_method_54_code, exceptionTable := #[], attributes := #[] }
def k7m2 : Method := { name := "length", desc := "()I", sig := { parameters := [], returnType := some .int }, accessFlags := 1, code := some k7c2 }
def k7c3 : Code := { maxStack := 2, maxLocals := 2, code := jdk_42_method_56_code, exceptionTable := #[], attributes := #[] }
def k7m3 : Method := { name := "charAt", desc := "(I)C", sig := { parameters := [.int], returnType := some .char }, accessFlags := 1, code := some k7c3 }
def k7c4 : Code := { maxStack := 3, maxLocals := 5, code := jdk_42_method_92_code, exceptionTable := #[], attributes := #[] }
def k7m4 : Method := { name := "substring", desc := "(II)Ljava/lang/String;", sig := { parameters := [.int, .int], returnType := some (.object "java/lang/String") }, accessFlags := 1, code := some k7c4 }
def k7c5 : Code := { maxStack := 4, maxLocals := 6, code := jdk_42_method_149_code, exceptionTable := #[], attributes := #[] }
def k7m5 : Method := { name := "<init>", desc := "([CIILjava/lang/Void;)V", sig := { parameters := [(.array .char), .int, .int, (.object "java/lang/Void")], returnType := none }, accessFlags := 2, code := some k7c5 }
def k7c6 : Code := { maxStack := 2, maxLocals := 3, code := jdk_42_method_151_code, exceptionTable := #[], attributes := #[] }
def k7m6 : Method := { name := "<init>", desc := "([BB)V", sig := { parameters := [(.array .byte), .byte], returnType := none }, accessFlags := 0, code := some k7c6 }
def k7c7 : Code := { maxStack := 1, maxLocals := 1, code := jdk_42_method_152_code, exceptionTable := #[], attributes := #[] }
def k7m7 : Method := { name := "coder", desc := "()B", sig := { parameters := [], returnType := some .byte }, accessFlags := 0, code := some k7c7 }
def k7c8 : Code := { maxStack := 1, maxLocals := 1, code := jdk_42_method_154_code, exceptionTable := #[], attributes := #[] }
def k7m8 : Method := { name := "isLatin1", desc := "()Z", sig := { parameters := [], returnType := some .boolean }, accessFlags := 0, code := some k7c8 }
def k7c9 : Code := { maxStack := 3, maxLocals := 2, code := jdk_42_method_155_code, exceptionTable := #[], attributes := #[] }
def k7m9 : Method := { name := "checkIndex", desc := "(II)V", sig := { parameters := [.int, .int], returnType := none }, accessFlags := 8, code := some k7c9 }
def k7c10 : Code := { maxStack := 4, maxLocals := 3, code := jdk_42_method_158_code, exceptionTable := #[], attributes := #[] }
def k7m10 : Method := { name := "checkBoundsBeginEnd", desc := "(III)V", sig := { parameters := [.int, .int, .int], returnType := none }, accessFlags := 8, code := some k7c10 }
/-- java/lang/String -/
def k7 : Class := { plain "java/lang/String" (some 0) with
  accessFlags := 49
  interfaces := #[2, 3, 4, 5, 6]
  cf := some (fileOf pool7 10 #[.nestMembers #[1103]] #[{ accessFlags := 1, nameIndex := 5, descriptorIndex := 6, attributes := #[] }, { accessFlags := 1, nameIndex := 5, descriptorIndex := 1010, attributes := #[] }, { accessFlags := 1, nameIndex := 507, descriptorIndex := 334, attributes := #[] }, { accessFlags := 1, nameIndex := 497, descriptorIndex := 427, attributes := #[] }, { accessFlags := 1, nameIndex := 683, descriptorIndex := 684, attributes := #[] }, { accessFlags := 2, nameIndex := 5, descriptorIndex := 29, attributes := #[] }, { accessFlags := 0, nameIndex := 5, descriptorIndex := 211, attributes := #[] }, { accessFlags := 0, nameIndex := 17, descriptorIndex := 337, attributes := #[] }, { accessFlags := 0, nameIndex := 494, descriptorIndex := 142, attributes := #[] }, { accessFlags := 8, nameIndex := 501, descriptorIndex := 391, attributes := #[] }, { accessFlags := 8, nameIndex := 523, descriptorIndex := 524, attributes := #[] }] 49 2 #[1106, 1108, 575, 1110, 1112] #[{ accessFlags := 18, nameIndex := 13, descriptorIndex := 14, attributes := #[] }, { accessFlags := 18, nameIndex := 17, descriptorIndex := 18, attributes := #[] }, { accessFlags := 2, nameIndex := 21, descriptorIndex := 22, attributes := #[] }, { accessFlags := 2, nameIndex := 25, descriptorIndex := 26, attributes := #[] }, { accessFlags := 26, nameIndex := 1116, descriptorIndex := 1117, attributes := #[] }, { accessFlags := 24, nameIndex := 40, descriptorIndex := 26, attributes := #[] }, { accessFlags := 26, nameIndex := 1101, descriptorIndex := 1102, attributes := #[] }, { accessFlags := 26, nameIndex := 1121, descriptorIndex := 1122, attributes := #[] }, { accessFlags := 25, nameIndex := 599, descriptorIndex := 600, attributes := #[] }, { accessFlags := 24, nameIndex := 1125, descriptorIndex := 18, attributes := #[] }, { accessFlags := 24, nameIndex := 1127, descriptorIndex := 18, attributes := #[] }])
  fields := #[{ name := "value", type := (.array .byte), accessFlags := 18, slot := 0, constantValue := 0 }, { name := "coder", type := .byte, accessFlags := 18, slot := 1, constantValue := 0 }, { name := "hash", type := .int, accessFlags := 2, slot := 2, constantValue := 0 }, { name := "hashIsZero", type := .boolean, accessFlags := 2, slot := 3, constantValue := 0 }, { name := "serialVersionUID", type := .long, accessFlags := 26, slot := 0, constantValue := 0 }, { name := "COMPACT_STRINGS", type := .boolean, accessFlags := 24, slot := 1, constantValue := 0 }, { name := "serialPersistentFields", type := (.array (.object "java/io/ObjectStreamField")), accessFlags := 26, slot := 2, constantValue := 0 }, { name := "REPL", type := .char, accessFlags := 26, slot := 3, constantValue := 0 }, { name := "CASE_INSENSITIVE_ORDER", type := (.object "java/util/Comparator"), accessFlags := 25, slot := 4, constantValue := 0 }, { name := "LATIN1", type := .byte, accessFlags := 24, slot := 5, constantValue := 0 }, { name := "UTF16", type := .byte, accessFlags := 24, slot := 6, constantValue := 0 }]
  methods := #[k7m0, k7m1, k7m2, k7m3, k7m4, k7m5, k7m6, k7m7, k7m8, k7m9, k7m10]
  instanceTypes := #[(.array .byte), .byte, .int, .boolean]
  staticTypes := #[.long, .boolean, (.array (.object "java/io/ObjectStreamField")), .char, (.object "java/util/Comparator"), .byte, .byte]
  resolved := Array.replicate 1451 none
  statics := some 0 }

def pool8 : Array CpInfo := pool [(1, .class_ 2), (0, u "java/lang/AutoCloseable"), (0, .class_ 4), (0, u "java/lang/Object")] 7

/-- java/lang/AutoCloseable -/
def k8 : Class := { plain "java/lang/AutoCloseable" (some 0) with
  accessFlags := 1537
  interfaces := #[]
  cf := some (fileOf pool8 1 #[] #[] 1537 3 #[] #[])
  fields := #[]
  methods := #[]
  instanceTypes := #[]
  staticTypes := #[]
  resolved := Array.replicate 12 none
  statics := none }

def pool9 : Array CpInfo := pool [(2, .class_ 4), (1, u "java/lang/Object"), (15, .class_ 22), (1, u "com/example/kerbline/kerbline/InputFile"), (0, u "decoder"), (0, u "Ljava/nio/charset/CharsetDecoder;"), (3, u "buffer"), (0, u "[B"), (5, u "line"), (0, u "Ljava/io/ByteArrayOutputStream;"), (2, u "name"), (0, u "Ljava/lang/String;"), (2, u "in"), (0, u "Ljava/io/InputStream;"), (0, .class_ 46), (0, u "java/lang/String"), (30, u "position"), (0, u "I"), (2, u "limit"), (10, u "number"), (0, u "J"), (35, u "trimBlanks"), (0, u "(Ljava/lang/String;)Ljava/lang/String;"), (9, .methodref 45 141), (0, .nameAndType 142 143), (0, u "length"), (0, u "()I"), (0, .methodref 45 145), (0, .nameAndType 146 147), (0, u "charAt"), (0, u "(I)C"), (0, .methodref 20 149), (0, .nameAndType 150 151), (0, u "isBlank"), (0, u "(C)Z"), (0, .methodref 45 153), (0, .nameAndType 154 155), (0, u "substring"), (0, u "(II)Ljava/lang/String;"), (49, .class_ 206), (0, u "java/lang/AutoCloseable")] 27

def k9c0 : Code := { maxStack := 3, maxLocals := 3, code := prog_9_method_5_code, exceptionTable := #[], attributes := #[] }
def k9m0 : Method := { name := "trimBlanks", desc := "(Ljava/lang/String;)Ljava/lang/String;", sig := { parameters := [(.object "java/lang/String")], returnType := some (.object "java/lang/String") }, accessFlags := 8, code := some k9c0 }
def k9c1 : Code := { maxStack := 2, maxLocals := 1, code := prog_9_method_6_code, exceptionTable := #[], attributes := #[] }
def k9m1 : Method := { name := "isBlank", desc := "(C)Z", sig := { parameters := [.char], returnType := some .boolean }, accessFlags := 10, code := some k9c1 }
/-- com/example/kerbline/kerbline/InputFile -/
def k9 : Class := { plain "com/example/kerbline/kerbline/InputFile" (some 0) with
  accessFlags := 48
  interfaces := #[8]
  cf := some (fileOf pool9 20 #[] #[{ accessFlags := 8, nameIndex := 129, descriptorIndex := 130, attributes := #[] }, { accessFlags := 10, nameIndex := 150, descriptorIndex := 151, attributes := #[] }] 48 2 #[205] #[{ accessFlags := 18, nameIndex := 39, descriptorIndex := 40, attributes := #[] }, { accessFlags := 18, nameIndex := 43, descriptorIndex := 44, attributes := #[] }, { accessFlags := 18, nameIndex := 23, descriptorIndex := 24, attributes := #[] }, { accessFlags := 18, nameIndex := 28, descriptorIndex := 29, attributes := #[] }, { accessFlags := 18, nameIndex := 35, descriptorIndex := 36, attributes := #[] }, { accessFlags := 2, nameIndex := 77, descriptorIndex := 78, attributes := #[] }, { accessFlags := 2, nameIndex := 81, descriptorIndex := 78, attributes := #[] }, { accessFlags := 2, nameIndex := 92, descriptorIndex := 93, attributes := #[] }])
  fields := #[{ name := "name", type := (.object "java/lang/String"), accessFlags := 18, slot := 0, constantValue := 0 }, { name := "in", type := (.object "java/io/InputStream"), accessFlags := 18, slot := 1, constantValue := 0 }, { name := "decoder", type := (.object "java/nio/charset/CharsetDecoder"), accessFlags := 18, slot := 2, constantValue := 0 }, { name := "buffer", type := (.array .byte), accessFlags := 18, slot := 3, constantValue := 0 }, { name := "line", type := (.object "java/io/ByteArrayOutputStream"), accessFlags := 18, slot := 4, constantValue := 0 }, { name := "position", type := .int, accessFlags := 2, slot := 5, constantValue := 0 }, { name := "limit", type := .int, accessFlags := 2, slot := 6, constantValue := 0 }, { name := "number", type := .long, accessFlags := 2, slot := 7, constantValue := 0 }]
  methods := #[k9m0, k9m1]
  instanceTypes := #[(.object "java/lang/String"), (.object "java/io/InputStream"), (.object "java/nio/charset/CharsetDecoder"), (.array .byte), (.object "java/io/ByteArrayOutputStream"), .int, .int, .long]
  staticTypes := #[]
  resolved := Array.replicate 234 none
  statics := none }

def pool10 : Array CpInfo := pool [(2, .class_ 4), (1, u "java/lang/Object"), (0, u "<init>"), (0, u "()V"), (17, .class_ 26), (1, u "jdk/internal/util/Preconditions"), (6, u "checkIndex"), (13, u "checkFromToIndex"), (7, .class_ 56), (0, u "jdk/internal/util/Preconditions$4"), (57, .class_ 115), (0, u "jdk/internal/util/Preconditions$1"), (7, u "SIOOBE_FORMATTER"), (0, u "Ljava/util/function/BiFunction;"), (0, .class_ 126), (0, u "jdk/internal/util/Preconditions$2"), (3, u "AIOOBE_FORMATTER"), (0, .class_ 132), (0, u "jdk/internal/util/Preconditions$3"), (3, u "IOOBE_FORMATTER"), (41, u "(IILjava/util/function/BiFunction;)I"), (4, u "(IIILjava/util/function/BiFunction;)I")] 10

def k10m0 : Method := { name := "<init>", desc := "()V", sig := { parameters := [], returnType := none }, accessFlags := 1, code := none }
def k10c1 : Code := { maxStack := 3, maxLocals := 3, code := jdk_41_method_11_code, exceptionTable := #[], attributes := #[] }
def k10m1 : Method := { name := "checkIndex", desc := "(IILjava/util/function/BiFunction;)I", sig := { parameters := [.int, .int, (.object "java/util/function/BiFunction")], returnType := some .int }, accessFlags := 9, code := some k10c1 }
def k10c2 : Code := { maxStack := 4, maxLocals := 4, code := jdk_41_method_12_code, exceptionTable := #[], attributes := #[] }
def k10m2 : Method := { name := "checkFromToIndex", desc := "(IIILjava/util/function/BiFunction;)I", sig := { parameters := [.int, .int, .int, (.object "java/util/function/BiFunction")], returnType := some .int }, accessFlags := 9, code := some k10c2 }
/-- jdk/internal/util/Preconditions -/
def k10 : Class := { plain "jdk/internal/util/Preconditions" (some 0) with
  accessFlags := 33
  interfaces := #[]
  cf := some (fileOf pool10 24 #[.nestMembers #[55, 131, 125, 114]] #[{ accessFlags := 1, nameIndex := 5, descriptorIndex := 6, attributes := #[] }, { accessFlags := 9, nameIndex := 33, descriptorIndex := 178, attributes := #[] }, { accessFlags := 9, nameIndex := 47, descriptorIndex := 183, attributes := #[] }] 33 2 #[] #[{ accessFlags := 25, nameIndex := 123, descriptorIndex := 124, attributes := #[] }, { accessFlags := 25, nameIndex := 130, descriptorIndex := 124, attributes := #[] }, { accessFlags := 25, nameIndex := 136, descriptorIndex := 124, attributes := #[] }])
  fields := #[{ name := "SIOOBE_FORMATTER", type := (.object "java/util/function/BiFunction"), accessFlags := 25, slot := 0, constantValue := 0 }, { name := "AIOOBE_FORMATTER", type := (.object "java/util/function/BiFunction"), accessFlags := 25, slot := 1, constantValue := 0 }, { name := "IOOBE_FORMATTER", type := (.object "java/util/function/BiFunction"), accessFlags := 25, slot := 2, constantValue := 0 }]
  methods := #[k10m0, k10m1, k10m2]
  instanceTypes := #[]
  staticTypes := #[(.object "java/util/function/BiFunction"), (.object "java/util/function/BiFunction"), (.object "java/util/function/BiFunction")]
  resolved := Array.replicate 194 none
  statics := some 1 }

def pool11 : Array CpInfo := pool [(6, .class_ 8), (1, u "java/lang/Object"), (0, u "<init>"), (0, u "()V"), (1, .class_ 14), (1, u "java/lang/StringUTF16"), (31, u "$assertionsDisabled"), (0, u "Z"), (13, u "HI_BYTE_SHIFT"), (0, u "I"), (2, u "LO_BYTE_SHIFT"), (49, .methodref 12 116), (0, .nameAndType 117 118), (0, u "compress"), (0, u "([CI[BII)I"), (3, u "([CII)[B"), (138, u "coderFromArrayLen"), (0, u "([BI)B"), (106, .class_ 371), (1, u "java/lang/StringUTF16$LinesSpliterator"), (58, u "MAX_LENGTH"), (196, .class_ 628), (0, u "java/lang/StringUTF16$CodePointsSpliterator"), (0, .class_ 630), (0, u "java/lang/StringUTF16$CharsSpliterator")] 4

def k11m0 : Method := { name := "<init>", desc := "()V", sig := { parameters := [], returnType := none }, accessFlags := 0, code := none }
def k11c1 : Code := { maxStack := 2, maxLocals := 2, code := jdk_52_method_15_code, exceptionTable := #[], attributes := #[] }
def k11m1 : Method := { name := "coderFromArrayLen", desc := "([BI)B", sig := { parameters := [(.array .byte), .int], returnType := some .byte }, accessFlags := 8, code := some k11c1 }
def k11c2 : Code := { maxStack := 5, maxLocals := 6, code := jdk_52_method_16_code, exceptionTable := #[], attributes := #[] }
def k11m2 : Method := { name := "compress", desc := "([CII)[B", sig := { parameters := [(.array .char), .int, .int], returnType := some (.array .byte) }, accessFlags := 9, code := some k11c2 }
def k11c3 : Code := { maxStack := 3, maxLocals := 7, code := jdk_52_method_21_code, exceptionTable := #[], attributes := #[] }
def k11m3 : Method := { name := "compress", desc := "([CI[BII)I", sig := { parameters := [(.array .char), .int, (.array .byte), .int, .int], returnType := some .int }, accessFlags := 9, code := some k11c3 }
/-- java/lang/StringUTF16 -/
def k11 : Class := { plain "java/lang/StringUTF16" (some 0) with
  accessFlags := 48
  interfaces := #[]
  cf := some (fileOf pool11 12 #[.nestMembers #[627, 629, 369]] #[{ accessFlags := 0, nameIndex := 9, descriptorIndex := 10, attributes := #[] }, { accessFlags := 8, nameIndex := 261, descriptorIndex := 262, attributes := #[] }, { accessFlags := 9, nameIndex := 117, descriptorIndex := 122, attributes := #[] }, { accessFlags := 9, nameIndex := 117, descriptorIndex := 118, attributes := #[] }] 48 6 #[] #[{ accessFlags := 26, nameIndex := 61, descriptorIndex := 62, attributes := #[] }, { accessFlags := 26, nameIndex := 65, descriptorIndex := 62, attributes := #[] }, { accessFlags := 24, nameIndex := 430, descriptorIndex := 62, attributes := #[] }, { accessFlags := 4120, nameIndex := 46, descriptorIndex := 47, attributes := #[] }])
  fields := #[{ name := "HI_BYTE_SHIFT", type := .int, accessFlags := 26, slot := 0, constantValue := 0 }, { name := "LO_BYTE_SHIFT", type := .int, accessFlags := 26, slot := 1, constantValue := 0 }, { name := "MAX_LENGTH", type := .int, accessFlags := 24, slot := 2, constantValue := 0 }, { name := "$assertionsDisabled", type := .boolean, accessFlags := 4120, slot := 3, constantValue := 0 }]
  methods := #[k11m0, k11m1, k11m2, k11m3]
  instanceTypes := #[]
  staticTypes := #[.int, .int, .int, .boolean]
  resolved := Array.replicate 635 none
  statics := none }

def pool12 : Array CpInfo := pool [(1, .class_ 2), (0, u "java/lang/String"), (1, .class_ 6), (1, u "java/lang/Object"), (0, u "<init>"), (0, u "()V"), (0, .methodref 1 10), (0, .nameAndType 11 12), (0, u "checkIndex"), (0, u "(II)V"), (1, .class_ 16), (1, u "java/lang/StringLatin1"), (36, u "([BI)C"), (58, .methodref 1 113), (0, .nameAndType 7 114), (0, u "([BB)V"), (6, u "$assertionsDisabled"), (0, u "Z"), (8, .class_ 133), (1, u "java/util/Arrays"), (17, .string 152), (0, u ""), (43, u "newString"), (0, u "([BII)Ljava/lang/String;"), (23, .class_ 223), (1, u "java/lang/StringLatin1$LinesSpliterator"), (8, .methodref 131 233), (0, .nameAndType 234 235), (0, u "copyOfRange"), (0, u "([BII)[B"), (16, u "charAt"), (137, .class_ 391), (0, u "java/lang/StringLatin1$CharsSpliterator")] 3

def k12m0 : Method := { name := "<init>", desc := "()V", sig := { parameters := [], returnType := none }, accessFlags := 0, code := none }
def k12c1 : Code := { maxStack := 2, maxLocals := 2, code := jdk_43_method_2_code, exceptionTable := #[], attributes := #[] }
def k12m1 : Method := { name := "charAt", desc := "([BI)C", sig := { parameters := [(.array .byte), .int], returnType := some .char }, accessFlags := 9, code := some k12c1 }
def k12c2 : Code := { maxStack := 6, maxLocals := 3, code := jdk_43_method_47_code, exceptionTable := #[], attributes := #[] }
def k12m2 : Method := { name := "newString", desc := "([BII)Ljava/lang/String;", sig := { parameters := [(.array .byte), .int, .int], returnType := some (.object "java/lang/String") }, accessFlags := 9, code := some k12c2 }
/-- java/lang/StringLatin1 -/
def k12 : Class := { plain "java/lang/StringLatin1" (some 0) with
  accessFlags := 48
  interfaces := #[]
  cf := some (fileOf pool12 14 #[.nestMembers #[390, 221]] #[{ accessFlags := 0, nameIndex := 7, descriptorIndex := 8, attributes := #[] }, { accessFlags := 9, nameIndex := 252, descriptorIndex := 53, attributes := #[] }, { accessFlags := 9, nameIndex := 196, descriptorIndex := 197, attributes := #[] }] 48 4 #[] #[{ accessFlags := 4120, nameIndex := 121, descriptorIndex := 122, attributes := #[] }])
  fields := #[{ name := "$assertionsDisabled", type := .boolean, accessFlags := 4120, slot := 0, constantValue := 0 }]
  methods := #[k12m0, k12m1, k12m2]
  instanceTypes := #[]
  staticTypes := #[.boolean]
  resolved := Array.replicate 395 none
  statics := none }

def pool13 : Array CpInfo := pool [(2, .class_ 4), (1, u "java/lang/Object"), (0, u "<init>"), (0, u "()V"), (7, .class_ 16), (1, u "java/util/Arrays"), (57, .class_ 76), (1, u "java/util/Arrays$NaturalOrder"), (36, .class_ 115), (1, u "java/util/Arrays$LegacyMergeSort"), (1, u "Z"), (21, u "copyOfRange"), (10, .methodref 151 152), (0, .class_ 153), (0, .nameAndType 154 155), (0, u "java/lang/System"), (0, u "arraycopy"), (0, u "(Ljava/lang/Object;ILjava/lang/Object;II)V"), (148, .methodref 305 306), (0, .class_ 307), (0, .nameAndType 308 309), (0, u "java/lang/Math"), (0, u "min"), (0, u "(II)I"), (29, .methodref 14 340), (0, .nameAndType 341 342), (0, u "copyOfRangeByte"), (0, u "([BII)[B"), (0, .methodref 14 344), (0, .nameAndType 345 346), (0, u "checkLength"), (0, u "(II)V"), (28, .class_ 376), (0, u "java/util/Arrays$ArrayList"), (68, u "$assertionsDisabled"), (269, u "MIN_ARRAY_SORT_GRAN"), (0, u "I"), (2, u "INSERTIONSORT_THRESHOLD"), (255, .class_ 976), (0, u "java/util/Arrays$ArrayItr")] 52

def k13m0 : Method := { name := "<init>", desc := "()V", sig := { parameters := [], returnType := none }, accessFlags := 2, code := none }
def k13c1 : Code := { maxStack := 4, maxLocals := 2, code := jdk_65_method_131_code, exceptionTable := #[], attributes := #[] }
def k13m1 : Method := { name := "checkLength", desc := "(II)V", sig := { parameters := [.int, .int], returnType := none }, accessFlags := 10, code := some k13c1 }
def k13c2 : Code := { maxStack := 3, maxLocals := 3, code := jdk_65_method_132_code, exceptionTable := #[], attributes := #[] }
def k13m2 : Method := { name := "copyOfRange", desc := "([BII)[B", sig := { parameters := [(.array .byte), .int, .int], returnType := some (.array .byte) }, accessFlags := 9, code := some k13c2 }
def k13c3 : Code := { maxStack := 6, maxLocals := 5, code := jdk_65_method_133_code, exceptionTable := #[], attributes := #[] }
def k13m3 : Method := { name := "copyOfRangeByte", desc := "([BII)[B", sig := { parameters := [(.array .byte), .int, .int], returnType := some (.array .byte) }, accessFlags := 10, code := some k13c3 }
/-- java/util/Arrays -/
def k13 : Class := { plain "java/util/Arrays" (some 0) with
  accessFlags := 49
  interfaces := #[]
  cf := some (fileOf pool13 14 #[.nestMembers #[975, 375, 113, 74]] #[{ accessFlags := 2, nameIndex := 5, descriptorIndex := 6, attributes := #[] }, { accessFlags := 10, nameIndex := 345, descriptorIndex := 346, attributes := #[] }, { accessFlags := 9, nameIndex := 139, descriptorIndex := 342, attributes := #[] }, { accessFlags := 10, nameIndex := 341, descriptorIndex := 342, attributes := #[] }] 49 2 #[] #[{ accessFlags := 26, nameIndex := 715, descriptorIndex := 716, attributes := #[] }, { accessFlags := 26, nameIndex := 719, descriptorIndex := 716, attributes := #[] }, { accessFlags := 4120, nameIndex := 445, descriptorIndex := 117, attributes := #[] }])
  fields := #[{ name := "MIN_ARRAY_SORT_GRAN", type := .int, accessFlags := 26, slot := 0, constantValue := 0 }, { name := "INSERTIONSORT_THRESHOLD", type := .int, accessFlags := 26, slot := 1, constantValue := 0 }, { name := "$assertionsDisabled", type := .boolean, accessFlags := 4120, slot := 2, constantValue := 0 }]
  methods := #[k13m0, k13m1, k13m2, k13m3]
  instanceTypes := #[]
  staticTypes := #[.int, .int, .boolean]
  resolved := Array.replicate 1029 none
  statics := none }

def pool14 : Array CpInfo := pool [(1, .class_ 2), (0, u "java/lang/Math"), (1, .class_ 6), (1, u "java/lang/Object"), (0, u "<init>"), (0, u "()V"), (89, .class_ 100), (1, u "java/lang/Math$RandomNumberGeneratorHolder"), (71, u "negativeZeroFloatBits"), (0, u "J"), (2, u "negativeZeroDoubleBits"), (24, u "min"), (43, u "$assertionsDisabled"), (0, u "Z"), (88, u "(II)I"), (2, u "twoToTheDoubleScaleDown"), (0, u "D"), (4, u "twoToTheDoubleScaleUp"), (9, u "E"), (3, u "PI"), (2, u "TAU"), (2, u "DEGREES_TO_RADIANS"), (0, u "RADIANS_TO_DEGREES")] 94

def k14m0 : Method := { name := "<init>", desc := "()V", sig := { parameters := [], returnType := none }, accessFlags := 2, code := none }
def k14c1 : Code := { maxStack := 2, maxLocals := 2, code := jdk_29_method_69_code, exceptionTable := #[], attributes := #[] }
def k14m1 : Method := { name := "min", desc := "(II)I", sig := { parameters := [.int, .int], returnType := some .int }, accessFlags := 9, code := some k14c1 }
/-- java/lang/Math -/
def k14 : Class := { plain "java/lang/Math" (some 0) with
  accessFlags := 49
  interfaces := #[]
  cf := some (fileOf pool14 1 #[.nestMembers #[98]] #[{ accessFlags := 2, nameIndex := 7, descriptorIndex := 8, attributes := #[] }, { accessFlags := 9, nameIndex := 201, descriptorIndex := 335, attributes := #[] }] 49 4 #[] #[{ accessFlags := 25, nameIndex := 354, descriptorIndex := 339, attributes := #[] }, { accessFlags := 25, nameIndex := 358, descriptorIndex := 339, attributes := #[] }, { accessFlags := 25, nameIndex := 361, descriptorIndex := 339, attributes := #[] }, { accessFlags := 26, nameIndex := 364, descriptorIndex := 339, attributes := #[] }, { accessFlags := 26, nameIndex := 365, descriptorIndex := 339, attributes := #[] }, { accessFlags := 26, nameIndex := 172, descriptorIndex := 173, attributes := #[] }, { accessFlags := 26, nameIndex := 176, descriptorIndex := 173, attributes := #[] }, { accessFlags := 8, nameIndex := 344, descriptorIndex := 339, attributes := #[] }, { accessFlags := 8, nameIndex := 338, descriptorIndex := 339, attributes := #[] }, { accessFlags := 4120, nameIndex := 245, descriptorIndex := 246, attributes := #[] }])
  fields := #[{ name := "E", type := .double, accessFlags := 25, slot := 0, constantValue := 0 }, { name := "PI", type := .double, accessFlags := 25, slot := 1, constantValue := 0 }, { name := "TAU", type := .double, accessFlags := 25, slot := 2, constantValue := 0 }, { name := "DEGREES_TO_RADIANS", type := .double, accessFlags := 26, slot := 3, constantValue := 0 }, { name := "RADIANS_TO_DEGREES", type := .double, accessFlags := 26, slot := 4, constantValue := 0 }, { name := "negativeZeroFloatBits", type := .long, accessFlags := 26, slot := 5, constantValue := 0 }, { name := "negativeZeroDoubleBits", type := .long, accessFlags := 26, slot := 6, constantValue := 0 }, { name := "twoToTheDoubleScaleUp", type := .double, accessFlags := 8, slot := 7, constantValue := 0 }, { name := "twoToTheDoubleScaleDown", type := .double, accessFlags := 8, slot := 8, constantValue := 0 }, { name := "$assertionsDisabled", type := .boolean, accessFlags := 4120, slot := 9, constantValue := 0 }]
  methods := #[k14m0, k14m1]
  instanceTypes := #[]
  staticTypes := #[.double, .double, .double, .double, .double, .long, .long, .double, .double, .boolean]
  resolved := Array.replicate 460 none
  statics := none }

def pool15 : Array CpInfo := pool [(2, .class_ 4), (1, u "java/lang/Object"), (0, u "<init>"), (0, u "()V"), (1, .class_ 10), (1, u "java/lang/System"), (0, u "allowSecurityManager"), (0, u "I"), (16, u "cons"), (0, u "Ljava/io/Console;"), (77, .class_ 110), (1, u "java/lang/System$CallersHolder"), (43, u "initialErrStream"), (0, u "Ljava/io/PrintStream;"), (19, u "security"), (0, u "Ljava/lang/SecurityManager;"), (31, .class_ 209), (0, u "java/lang/System$1"), (7, u "props"), (0, u "Ljava/util/Properties;"), (2, u "lineSeparator"), (0, u "Ljava/lang/String;"), (96, .class_ 321), (1, u "java/lang/System$LoggerFinder"), (5, .class_ 328), (0, u "java/lang/System$Logger"), (67, u "err"), (2, u "out"), (91, u "notSupportedJnuEncoding"), (15, u "in"), (17, u "initialIn"), (0, u "Ljava/io/InputStream;"), (35, u "bootLayer"), (0, u "Ljava/lang/ModuleLayer;"), (99, .class_ 664), (0, u "java/lang/System$2"), (9, u "NEVER"), (2, u "MAYBE"), (49, u "arraycopy"), (0, u "(Ljava/lang/Object;ILjava/lang/Object;II)V"), (72, .class_ 802), (0, u "java/lang/System$Logger$Level")] 31

def k15m0 : Method := { name := "<init>", desc := "()V", sig := { parameters := [], returnType := none }, accessFlags := 2, code := none }
def k15m1 : Method := { name := "arraycopy", desc := "(Ljava/lang/Object;ILjava/lang/Object;II)V", sig := { parameters := [(.object "java/lang/Object"), .int, (.object "java/lang/Object"), .int, .int], returnType := none }, accessFlags := 265, code := none }
/-- java/lang/System -/
def k15 : Class := { plain "java/lang/System" (some 0) with
  accessFlags := 49
  interfaces := #[]
  cf := some (fileOf pool15 8 #[.nestMembers #[319, 327, 801, 108, 663, 208]] #[{ accessFlags := 2, nameIndex := 5, descriptorIndex := 6, attributes := #[] }, { accessFlags := 265, nameIndex := 727, descriptorIndex := 728, attributes := #[] }] 49 2 #[] #[{ accessFlags := 25, nameIndex := 507, descriptorIndex := 526, attributes := #[] }, { accessFlags := 25, nameIndex := 399, descriptorIndex := 155, attributes := #[] }, { accessFlags := 25, nameIndex := 396, descriptorIndex := 155, attributes := #[] }, { accessFlags := 10, nameIndex := 525, descriptorIndex := 526, attributes := #[] }, { accessFlags := 26, nameIndex := 674, descriptorIndex := 12, attributes := #[] }, { accessFlags := 26, nameIndex := 677, descriptorIndex := 12, attributes := #[] }, { accessFlags := 10, nameIndex := 11, descriptorIndex := 12, attributes := #[] }, { accessFlags := 74, nameIndex := 175, descriptorIndex := 176, attributes := #[] }, { accessFlags := 10, nameIndex := 491, descriptorIndex := 222, attributes := #[] }, { accessFlags := 74, nameIndex := 29, descriptorIndex := 30, attributes := #[] }, { accessFlags := 74, nameIndex := 154, descriptorIndex := 155, attributes := #[] }, { accessFlags := 10, nameIndex := 217, descriptorIndex := 218, attributes := #[] }, { accessFlags := 10, nameIndex := 221, descriptorIndex := 222, attributes := #[] }, { accessFlags := 8, nameIndex := 562, descriptorIndex := 563, attributes := #[] }])
  fields := #[{ name := "in", type := (.object "java/io/InputStream"), accessFlags := 25, slot := 0, constantValue := 0 }, { name := "out", type := (.object "java/io/PrintStream"), accessFlags := 25, slot := 1, constantValue := 0 }, { name := "err", type := (.object "java/io/PrintStream"), accessFlags := 25, slot := 2, constantValue := 0 }, { name := "initialIn", type := (.object "java/io/InputStream"), accessFlags := 10, slot := 3, constantValue := 0 }, { name := "NEVER", type := .int, accessFlags := 26, slot := 4, constantValue := 0 }, { name := "MAYBE", type := .int, accessFlags := 26, slot := 5, constantValue := 0 }, { name := "allowSecurityManager", type := .int, accessFlags := 10, slot := 6, constantValue := 0 }, { name := "security", type := (.object "java/lang/SecurityManager"), accessFlags := 74, slot := 7, constantValue := 0 }, { name := "notSupportedJnuEncoding", type := (.object "java/lang/String"), accessFlags := 10, slot := 8, constantValue := 0 }, { name := "cons", type := (.object "java/io/Console"), accessFlags := 74, slot := 9, constantValue := 0 }, { name := "initialErrStream", type := (.object "java/io/PrintStream"), accessFlags := 74, slot := 10, constantValue := 0 }, { name := "props", type := (.object "java/util/Properties"), accessFlags := 10, slot := 11, constantValue := 0 }, { name := "lineSeparator", type := (.object "java/lang/String"), accessFlags := 10, slot := 12, constantValue := 0 }, { name := "bootLayer", type := (.object "java/lang/ModuleLayer"), accessFlags := 8, slot := 13, constantValue := 0 }]
  methods := #[k15m0, k15m1]
  instanceTypes := #[]
  staticTypes := #[(.object "java/io/InputStream"), (.object "java/io/PrintStream"), (.object "java/io/PrintStream"), (.object "java/io/InputStream"), .int, .int, .int, (.object "java/lang/SecurityManager"), (.object "java/lang/String"), (.object "java/io/Console"), (.object "java/io/PrintStream"), (.object "java/util/Properties"), (.object "java/lang/String"), (.object "java/lang/ModuleLayer")]
  resolved := Array.replicate 834 none
  statics := none }

def pool16 : Array CpInfo := pool [(9, u "<init>"), (6, .class_ 18), (1, u "java/lang/Object"), (0, u "()V"), (1, .class_ 23), (1, u "jdk/internal/util/ArraysSupport"), (0, u "LOG2_ARRAY_LONG_INDEX_SCALE"), (0, u "I"), (2, u "U"), (0, u "Ljdk/internal/misc/Unsafe;"), (8, u "BIG_ENDIAN"), (0, u "Z"), (8, u "LOG2_BYTE_BIT_SIZE"), (4, u "LOG2_ARRAY_INT_INDEX_SCALE"), (54, u "JLA"), (0, u "Ljdk/internal/access/JavaLangAccess;"), (11, u "LOG2_ARRAY_BOOLEAN_INDEX_SCALE"), (9, u "LOG2_ARRAY_BYTE_INDEX_SCALE"), (5, u "LOG2_ARRAY_CHAR_INDEX_SCALE"), (5, u "LOG2_ARRAY_SHORT_INDEX_SCALE"), (18, u "LOG2_ARRAY_FLOAT_INDEX_SCALE"), (24, u "LOG2_ARRAY_DOUBLE_INDEX_SCALE"), (89, u "T_BOOLEAN"), (2, u "T_CHAR"), (1, u "T_FLOAT"), (1, u "T_DOUBLE"), (1, u "T_BYTE"), (1, u "T_SHORT"), (1, u "T_INT"), (1, u "T_LONG"), (1, u "SOFT_MAX_ARRAY_LENGTH")] 83

def k16m0 : Method := { name := "<init>", desc := "()V", sig := { parameters := [], returnType := none }, accessFlags := 2, code := none }
/-- jdk/internal/util/ArraysSupport -/
def k16 : Class := { plain "jdk/internal/util/ArraysSupport" (some 0) with
  accessFlags := 33
  interfaces := #[]
  cf := some (fileOf pool16 21 #[] #[{ accessFlags := 2, nameIndex := 9, descriptorIndex := 19, attributes := #[] }] 33 16 #[] #[{ accessFlags := 24, nameIndex := 28, descriptorIndex := 29, attributes := #[] }, { accessFlags := 26, nameIndex := 38, descriptorIndex := 39, attributes := #[] }, { accessFlags := 25, nameIndex := 121, descriptorIndex := 25, attributes := #[] }, { accessFlags := 25, nameIndex := 131, descriptorIndex := 25, attributes := #[] }, { accessFlags := 25, nameIndex := 137, descriptorIndex := 25, attributes := #[] }, { accessFlags := 25, nameIndex := 143, descriptorIndex := 25, attributes := #[] }, { accessFlags := 25, nameIndex := 53, descriptorIndex := 25, attributes := #[] }, { accessFlags := 25, nameIndex := 24, descriptorIndex := 25, attributes := #[] }, { accessFlags := 25, nameIndex := 162, descriptorIndex := 25, attributes := #[] }, { accessFlags := 25, nameIndex := 187, descriptorIndex := 25, attributes := #[] }, { accessFlags := 26, nameIndex := 48, descriptorIndex := 25, attributes := #[] }, { accessFlags := 25, nameIndex := 277, descriptorIndex := 25, attributes := #[] }, { accessFlags := 25, nameIndex := 280, descriptorIndex := 25, attributes := #[] }, { accessFlags := 25, nameIndex := 282, descriptorIndex := 25, attributes := #[] }, { accessFlags := 25, nameIndex := 284, descriptorIndex := 25, attributes := #[] }, { accessFlags := 25, nameIndex := 286, descriptorIndex := 25, attributes := #[] }, { accessFlags := 25, nameIndex := 288, descriptorIndex := 25, attributes := #[] }, { accessFlags := 25, nameIndex := 290, descriptorIndex := 25, attributes := #[] }, { accessFlags := 25, nameIndex := 292, descriptorIndex := 25, attributes := #[] }, { accessFlags := 26, nameIndex := 108, descriptorIndex := 109, attributes := #[] }, { accessFlags := 25, nameIndex := 294, descriptorIndex := 25, attributes := #[] }])
  fields := #[{ name := "U", type := (.object "jdk/internal/misc/Unsafe"), accessFlags := 24, slot := 0, constantValue := 0 }, { name := "BIG_ENDIAN", type := .boolean, accessFlags := 26, slot := 1, constantValue := 0 }, { name := "LOG2_ARRAY_BOOLEAN_INDEX_SCALE", type := .int, accessFlags := 25, slot := 2, constantValue := 0 }, { name := "LOG2_ARRAY_BYTE_INDEX_SCALE", type := .int, accessFlags := 25, slot := 3, constantValue := 0 }, { name := "LOG2_ARRAY_CHAR_INDEX_SCALE", type := .int, accessFlags := 25, slot := 4, constantValue := 0 }, { name := "LOG2_ARRAY_SHORT_INDEX_SCALE", type := .int, accessFlags := 25, slot := 5, constantValue := 0 }, { name := "LOG2_ARRAY_INT_INDEX_SCALE", type := .int, accessFlags := 25, slot := 6, constantValue := 0 }, { name := "LOG2_ARRAY_LONG_INDEX_SCALE", type := .int, accessFlags := 25, slot := 7, constantValue := 0 }, { name := "LOG2_ARRAY_FLOAT_INDEX_SCALE", type := .int, accessFlags := 25, slot := 8, constantValue := 0 }, { name := "LOG2_ARRAY_DOUBLE_INDEX_SCALE", type := .int, accessFlags := 25, slot := 9, constantValue := 0 }, { name := "LOG2_BYTE_BIT_SIZE", type := .int, accessFlags := 26, slot := 10, constantValue := 0 }, { name := "T_BOOLEAN", type := .int, accessFlags := 25, slot := 11, constantValue := 0 }, { name := "T_CHAR", type := .int, accessFlags := 25, slot := 12, constantValue := 0 }, { name := "T_FLOAT", type := .int, accessFlags := 25, slot := 13, constantValue := 0 }, { name := "T_DOUBLE", type := .int, accessFlags := 25, slot := 14, constantValue := 0 }, { name := "T_BYTE", type := .int, accessFlags := 25, slot := 15, constantValue := 0 }, { name := "T_SHORT", type := .int, accessFlags := 25, slot := 16, constantValue := 0 }, { name := "T_INT", type := .int, accessFlags := 25, slot := 17, constantValue := 0 }, { name := "T_LONG", type := .int, accessFlags := 25, slot := 18, constantValue := 0 }, { name := "JLA", type := (.object "jdk/internal/access/JavaLangAccess"), accessFlags := 26, slot := 19, constantValue := 0 }, { name := "SOFT_MAX_ARRAY_LENGTH", type := .int, accessFlags := 25, slot := 20, constantValue := 0 }]
  methods := #[k16m0]
  instanceTypes := #[]
  staticTypes := #[(.object "jdk/internal/misc/Unsafe"), .boolean, .int, .int, .int, .int, .int, .int, .int, .int, .int, .int, .int, .int, .int, .int, .int, .int, .int, (.object "jdk/internal/access/JavaLangAccess"), .int]
  resolved := Array.replicate 378 none
  statics := none }

def pool17 : Array CpInfo := pool [(1, u "java/lang/Cloneable"), (0, .class_ 1), (0, u "java/lang/Object"), (0, .class_ 3)] 3

/-- java/lang/Cloneable -/
def k17 : Class := { plain "java/lang/Cloneable" (some 0) with
  accessFlags := 1537
  interfaces := #[]
  cf := some (fileOf pool17 2 #[] #[] 1537 4 #[] #[])
  fields := #[]
  methods := #[]
  instanceTypes := #[]
  staticTypes := #[]
  resolved := Array.replicate 8 none
  statics := none }

/-- the primitive byte -/
def k18 : Class := { plain "byte" none with kind := .primitive 'B', accessFlags := 0x411 }
/-- [B -/
def k19 : Class := { plain "[B" (some 0) with kind := .array 18 .byte, interfaces := #[17, 2], accessFlags := 1041 }

/-- the primitive char -/
def k20 : Class := { plain "char" none with kind := .primitive 'C', accessFlags := 0x411 }
/-- [C -/
def k21 : Class := { plain "[C" (some 0) with kind := .array 20 .char, interfaces := #[17, 2], accessFlags := 1041 }

/-- the primitive int -/
def k22 : Class := { plain "int" none with kind := .primitive 'I', accessFlags := 0x411 }
/-- [I -/
def k23 : Class := { plain "[I" (some 0) with kind := .array 22 .int, interfaces := #[17, 2], accessFlags := 1041 }

def heap : Heap := #[{ cls := 7, slots := #[.long 0, .int 1, .null, .int 0, .null, .int 0, .int 0], vm := .statics 7 },
  { cls := 10, slots := #[.null, .null, .null], vm := .statics 10 }]
def classes : Array Class := #[k0, k1, k2, k3, k4, k5, k6, k7, k8, k9, k10, k11, k12, k13, k14, k15, k16, k17, k18, k19, k20, k21, k22, k23]
def interned : List (Array UInt16 × Addr) := []
def slotsUsed : Nat := 10
def theMethod : MethodId := ⟨1, 1⟩
def args0 : Array Value := #[.int 5, .int 5, .int 5, .int 5, .int 5]
def aboutOver (below : List Frame) : State where
  vm := { classes := classes, interned := interned.toArray }
  heap := heap
  slotsUsed := slotsUsed
  threads := #[{ frames := .invoking theMethod args0 :: below }]
def below0 : List Frame := [.native { method := ⟨0, 0⟩, args := #[] }]
def about1 : State := aboutOver below0
def p0 : Program := .bare "" "" ""
def e0 : Env := launch0.env 0 0 0
theorem w_frames : about1.frames = Frame.invoking theMethod args0 :: below0 := rfl
set_option maxRecDepth 65536 in
theorem w_args : argsFit about1.vm theMethod args0 = true := by decide +kernel
set_option maxRecDepth 65536 in
theorem w_heap : heapFits about1 = true := by decide +kernel
set_option maxRecDepth 65536 in
theorem w_runnable : about1.curStatus? = some .runnable := by decide +kernel
set_option maxRecDepth 65536 in
theorem w_alone : about1.alone = true := by decide +kernel
set_option maxRecDepth 65536 in
theorem w_named : about1.methodNamed? x = some theMethod := by decide +kernel
set_option maxRecDepth 65536 in
theorem w_hears : about1.hears theMethod below0 = true := by decide +kernel
set_option maxRecDepth 65536 in
theorem w_ripe : about1.ripe theMethod args0 below0 = true := by decide +kernel
theorem w_running : about1.status = .running := rfl
set_option maxRecDepth 65536 in
theorem w_room : about1.hasRoom e0.platform room_1 = true :=
  launch0.hasRoom_least _ room_1 (by decide +kernel) (by decide +kernel) (by decide +kernel) (by decide +kernel) (by decide +kernel) (by decide +kernel)
theorem allAtoms_all (ts : List Jvm.Cond) (a : Array Jvm.Value) (st : Jvm.State) : (allAtoms ts).before a st = ts.all (fun c => c.before a st) := by
  induction ts with
  | nil => rfl
  | cons c t ih =>
    show (Jvm.Cond.and c (allAtoms t)).before a st = _
    rw [Jvm.Cond.before_and, ih, List.all_cons]
def words1 : List Jvm.Cond := Jvm.Cond.code x code maxLocals ret :: tables_1
/-- a 'code' word, met by the world's own term for the bytes: nothing is compared byte by byte -/
theorem code_word {y : MethodName} {bytes : ByteArray} {mx : Nat} {rt : Option FieldType} {a : Array Value} {s : State} {m : MethodId} {meth : Method} {c : Code} (h1 : s.methodNamed? y = some m) (h2 : s.vm.method? m = some meth) (h3 : meth.code = some c) (h4 : c.code = bytes)
    (h5 : (c.maxLocals == mx && c.exceptionTable.isEmpty && decide (c.maxStack ≤ mostOperands) && decide (meth.sig.returnType = rt) && !meth.locks && decide (parseMethodDescriptor y.desc = some meth.sig)) = true) : (Jvm.Cond.code y bytes mx rt).before a s = true := by
  simp only [Bool.and_eq_true, beq_iff_eq, Bool.not_eq_true', decide_eq_true_eq] at h5
  obtain ⟨⟨⟨⟨⟨g1, g2⟩, g3⟩, g4⟩, g5⟩, g6⟩ := h5
  simp [Cond.before, Cond.holds, Cond.value, h1, h2, h3, h4, g1, g2, g3, g4, g5, g6]
def isCode : Jvm.Cond → Bool
  | .code _ _ _ _ => true
  | _ => false
theorem all_split {L : List Jvm.Cond} {P : Jvm.Cond → Bool} (h1 : L.all (fun c => isCode c || P c) = true) (h2 : ∀ c ∈ L.filter isCode, P c = true) : L.all P = true := by
  refine List.all_eq_true.mpr fun c hc => ?_
  have h := List.all_eq_true.mp h1 c hc
  rcases Bool.eq_false_or_eq_true (isCode c) with hi | hi
  · exact h2 c (List.mem_filter.mpr ⟨hc, hi⟩)
  · simpa [hi] using h
set_option maxRecDepth 65536 in
theorem w_c0 : (Jvm.Cond.code x code maxLocals ret).before args0 about1 = true := code_word (m := ⟨1, 1⟩) (meth := k1m1) (c := k1c1) (by decide +kernel) rfl rfl rfl (by decide +kernel)
set_option maxRecDepth 65536 in
theorem w_c1 : (Jvm.Cond.code ({ cls := "com/example/kerbline/kerbline/InputFileTrimBlanksPinLaw", name := "ch", desc := "(I)C" } : Jvm.MethodName) method_4_code (2 : Nat) (Option.some Jvm.ClassFile.FieldType.char)).before args0 about1 = true := code_word (m := ⟨1, 3⟩) (meth := k1m3) (c := k1c3) (by decide +kernel) rfl rfl rfl (by decide +kernel)
set_option maxRecDepth 65536 in
theorem w_c2 : (Jvm.Cond.code ({ cls := "com/example/kerbline/kerbline/InputFileTrimBlanksPinLaw", name := "make", desc := "(ICCCC)Ljava/lang/String;" } : Jvm.MethodName) method_5_code (5 : Nat) (Option.some (Jvm.ClassFile.FieldType.object "java/lang/String"))).before args0 about1 = true := code_word (m := ⟨1, 4⟩) (meth := k1m4) (c := k1c4) (by decide +kernel) rfl rfl rfl (by decide +kernel)
set_option maxRecDepth 65536 in
theorem w_c3 : (Jvm.Cond.code ({ cls := "java/lang/String", name := "<init>", desc := "([C)V" } : Jvm.MethodName) jdk_42_method_3_code (2 : Nat) (Option.none : Option Jvm.ClassFile.FieldType)).before args0 about1 = true := code_word (m := ⟨7, 1⟩) (meth := k7m1) (c := k7c1) (by decide +kernel) rfl rfl rfl (by decide +kernel)
set_option maxRecDepth 65536 in
theorem w_c4 : (Jvm.Cond.code ({ cls := "java/lang/String", name := "<init>", desc := "([CIILjava/lang/Void;)V" } : Jvm.MethodName) jdk_42_method_149_code (6 : Nat) (Option.none : Option Jvm.ClassFile.FieldType)).before args0 about1 = true := code_word (m := ⟨7, 5⟩) (meth := k7m5) (c := k7c5) (by decide +kernel) rfl rfl rfl (by decide +kernel)
set_option maxRecDepth 65536 in
theorem w_c5 : (Jvm.Cond.code ({ cls := "java/lang/Object", name := "<init>", desc := "()V" } : Jvm.MethodName) object_method_1_code (1 : Nat) (Option.none : Option Jvm.ClassFile.FieldType)).before args0 about1 = true := code_word (m := ⟨0, 0⟩) (meth := k0m0) (c := k0c0) (by decide +kernel) rfl rfl rfl (by decide +kernel)
set_option maxRecDepth 65536 in
theorem w_c6 : (Jvm.Cond.code ({ cls := "com/example/kerbline/kerbline/InputFile", name := "trimBlanks", desc := "(Ljava/lang/String;)Ljava/lang/String;" } : Jvm.MethodName) prog_9_method_5_code (3 : Nat) (Option.some (Jvm.ClassFile.FieldType.object "java/lang/String"))).before args0 about1 = true := code_word (m := ⟨9, 0⟩) (meth := k9m0) (c := k9c0) (by decide +kernel) rfl rfl rfl (by decide +kernel)
set_option maxRecDepth 65536 in
theorem w_c7 : (Jvm.Cond.code ({ cls := "java/lang/String", name := "length", desc := "()I" } : Jvm.MethodName) jdk_42_method_54_code (1 : Nat) (Option.some Jvm.ClassFile.FieldType.int)).before args0 about1 = true := code_word (m := ⟨7, 2⟩) (meth := k7m2) (c := k7c2) (by decide +kernel) rfl rfl rfl (by decide +kernel)
set_option maxRecDepth 65536 in
theorem w_c8 : (Jvm.Cond.code ({ cls := "java/lang/String", name := "coder", desc := "()B" } : Jvm.MethodName) jdk_42_method_152_code (1 : Nat) (Option.some Jvm.ClassFile.FieldType.byte)).before args0 about1 = true := code_word (m := ⟨7, 7⟩) (meth := k7m7) (c := k7c7) (by decide +kernel) rfl rfl rfl (by decide +kernel)
set_option maxRecDepth 65536 in
theorem w_c9 : (Jvm.Cond.code ({ cls := "java/lang/String", name := "substring", desc := "(II)Ljava/lang/String;" } : Jvm.MethodName) jdk_42_method_92_code (5 : Nat) (Option.some (Jvm.ClassFile.FieldType.object "java/lang/String"))).before args0 about1 = true := code_word (m := ⟨7, 4⟩) (meth := k7m4) (c := k7c4) (by decide +kernel) rfl rfl rfl (by decide +kernel)
set_option maxRecDepth 65536 in
theorem w_c10 : (Jvm.Cond.code ({ cls := "java/lang/String", name := "checkBoundsBeginEnd", desc := "(III)V" } : Jvm.MethodName) jdk_42_method_158_code (3 : Nat) (Option.none : Option Jvm.ClassFile.FieldType)).before args0 about1 = true := code_word (m := ⟨7, 10⟩) (meth := k7m10) (c := k7c10) (by decide +kernel) rfl rfl rfl (by decide +kernel)
set_option maxRecDepth 65536 in
theorem w_c11 : (Jvm.Cond.code ({ cls := "jdk/internal/util/Preconditions", name := "checkFromToIndex", desc := "(IIILjava/util/function/BiFunction;)I" } : Jvm.MethodName) jdk_41_method_12_code (4 : Nat) (Option.some Jvm.ClassFile.FieldType.int)).before args0 about1 = true := code_word (m := ⟨10, 2⟩) (meth := k10m2) (c := k10c2) (by decide +kernel) rfl rfl rfl (by decide +kernel)
set_option maxRecDepth 65536 in
theorem w_c12 : (Jvm.Cond.code ({ cls := "java/lang/StringUTF16", name := "compress", desc := "([CII)[B" } : Jvm.MethodName) jdk_52_method_16_code (6 : Nat) (Option.some (Jvm.ClassFile.FieldType.array Jvm.ClassFile.FieldType.byte))).before args0 about1 = true := code_word (m := ⟨11, 2⟩) (meth := k11m2) (c := k11c2) (by decide +kernel) rfl rfl rfl (by decide +kernel)
set_option maxRecDepth 65536 in
theorem w_c13 : (Jvm.Cond.code ({ cls := "java/lang/StringUTF16", name := "compress", desc := "([CI[BII)I" } : Jvm.MethodName) jdk_52_method_21_code (7 : Nat) (Option.some Jvm.ClassFile.FieldType.int)).before args0 about1 = true := code_word (m := ⟨11, 3⟩) (meth := k11m3) (c := k11c3) (by decide +kernel) rfl rfl rfl (by decide +kernel)
set_option maxRecDepth 65536 in
theorem w_c14 : (Jvm.Cond.code ({ cls := "java/lang/StringUTF16", name := "coderFromArrayLen", desc := "([BI)B" } : Jvm.MethodName) jdk_52_method_15_code (2 : Nat) (Option.some Jvm.ClassFile.FieldType.byte)).before args0 about1 = true := code_word (m := ⟨11, 1⟩) (meth := k11m1) (c := k11c1) (by decide +kernel) rfl rfl rfl (by decide +kernel)
set_option maxRecDepth 65536 in
theorem w_c15 : (Jvm.Cond.code ({ cls := "com/example/kerbline/kerbline/InputFileTrimBlanksPinLaw", name := "blank", desc := "(C)Z" } : Jvm.MethodName) method_3_code (1 : Nat) (Option.some Jvm.ClassFile.FieldType.boolean)).before args0 about1 = true := code_word (m := ⟨1, 2⟩) (meth := k1m2) (c := k1c2) (by decide +kernel) rfl rfl rfl (by decide +kernel)
set_option maxRecDepth 65536 in
theorem w_c16 : (Jvm.Cond.code ({ cls := "java/lang/String", name := "charAt", desc := "(I)C" } : Jvm.MethodName) jdk_42_method_56_code (2 : Nat) (Option.some Jvm.ClassFile.FieldType.char)).before args0 about1 = true := code_word (m := ⟨7, 3⟩) (meth := k7m3) (c := k7c3) (by decide +kernel) rfl rfl rfl (by decide +kernel)
set_option maxRecDepth 65536 in
theorem w_c17 : (Jvm.Cond.code ({ cls := "java/lang/String", name := "isLatin1", desc := "()Z" } : Jvm.MethodName) jdk_42_method_154_code (1 : Nat) (Option.some Jvm.ClassFile.FieldType.boolean)).before args0 about1 = true := code_word (m := ⟨7, 8⟩) (meth := k7m8) (c := k7c8) (by decide +kernel) rfl rfl rfl (by decide +kernel)
set_option maxRecDepth 65536 in
theorem w_c18 : (Jvm.Cond.code ({ cls := "java/lang/StringLatin1", name := "charAt", desc := "([BI)C" } : Jvm.MethodName) jdk_43_method_2_code (2 : Nat) (Option.some Jvm.ClassFile.FieldType.char)).before args0 about1 = true := code_word (m := ⟨12, 1⟩) (meth := k12m1) (c := k12c1) (by decide +kernel) rfl rfl rfl (by decide +kernel)
set_option maxRecDepth 65536 in
theorem w_c19 : (Jvm.Cond.code ({ cls := "java/lang/String", name := "checkIndex", desc := "(II)V" } : Jvm.MethodName) jdk_42_method_155_code (2 : Nat) (Option.none : Option Jvm.ClassFile.FieldType)).before args0 about1 = true := code_word (m := ⟨7, 9⟩) (meth := k7m9) (c := k7c9) (by decide +kernel) rfl rfl rfl (by decide +kernel)
set_option maxRecDepth 65536 in
theorem w_c20 : (Jvm.Cond.code ({ cls := "jdk/internal/util/Preconditions", name := "checkIndex", desc := "(IILjava/util/function/BiFunction;)I" } : Jvm.MethodName) jdk_41_method_11_code (3 : Nat) (Option.some Jvm.ClassFile.FieldType.int)).before args0 about1 = true := code_word (m := ⟨10, 1⟩) (meth := k10m1) (c := k10c1) (by decide +kernel) rfl rfl rfl (by decide +kernel)
set_option maxRecDepth 65536 in
theorem w_c21 : (Jvm.Cond.code ({ cls := "com/example/kerbline/kerbline/InputFile", name := "isBlank", desc := "(C)Z" } : Jvm.MethodName) prog_9_method_6_code (1 : Nat) (Option.some Jvm.ClassFile.FieldType.boolean)).before args0 about1 = true := code_word (m := ⟨9, 1⟩) (meth := k9m1) (c := k9c1) (by decide +kernel) rfl rfl rfl (by decide +kernel)
set_option maxRecDepth 65536 in
theorem w_c22 : (Jvm.Cond.code ({ cls := "java/lang/StringLatin1", name := "newString", desc := "([BII)Ljava/lang/String;" } : Jvm.MethodName) jdk_43_method_47_code (3 : Nat) (Option.some (Jvm.ClassFile.FieldType.object "java/lang/String"))).before args0 about1 = true := code_word (m := ⟨12, 2⟩) (meth := k12m2) (c := k12c2) (by decide +kernel) rfl rfl rfl (by decide +kernel)
set_option maxRecDepth 65536 in
theorem w_c23 : (Jvm.Cond.code ({ cls := "java/util/Arrays", name := "copyOfRange", desc := "([BII)[B" } : Jvm.MethodName) jdk_65_method_132_code (3 : Nat) (Option.some (Jvm.ClassFile.FieldType.array Jvm.ClassFile.FieldType.byte))).before args0 about1 = true := code_word (m := ⟨13, 2⟩) (meth := k13m2) (c := k13c2) (by decide +kernel) rfl rfl rfl (by decide +kernel)
set_option maxRecDepth 65536 in
theorem w_c24 : (Jvm.Cond.code ({ cls := "java/util/Arrays", name := "copyOfRangeByte", desc := "([BII)[B" } : Jvm.MethodName) jdk_65_method_133_code (5 : Nat) (Option.some (Jvm.ClassFile.FieldType.array Jvm.ClassFile.FieldType.byte))).before args0 about1 = true := code_word (m := ⟨13, 3⟩) (meth := k13m3) (c := k13c3) (by decide +kernel) rfl rfl rfl (by decide +kernel)
set_option maxRecDepth 65536 in
theorem w_c25 : (Jvm.Cond.code ({ cls := "java/util/Arrays", name := "checkLength", desc := "(II)V" } : Jvm.MethodName) jdk_65_method_131_code (2 : Nat) (Option.none : Option Jvm.ClassFile.FieldType)).before args0 about1 = true := code_word (m := ⟨13, 1⟩) (meth := k13m1) (c := k13c1) (by decide +kernel) rfl rfl rfl (by decide +kernel)
set_option maxRecDepth 65536 in
theorem w_c26 : (Jvm.Cond.code ({ cls := "java/lang/Math", name := "min", desc := "(II)I" } : Jvm.MethodName) jdk_29_method_69_code (2 : Nat) (Option.some Jvm.ClassFile.FieldType.int)).before args0 about1 = true := code_word (m := ⟨14, 1⟩) (meth := k14m1) (c := k14c1) (by decide +kernel) rfl rfl rfl (by decide +kernel)
set_option maxRecDepth 65536 in
theorem w_c27 : (Jvm.Cond.code ({ cls := "java/lang/String", name := "<init>", desc := "([BB)V" } : Jvm.MethodName) jdk_42_method_151_code (3 : Nat) (Option.none : Option Jvm.ClassFile.FieldType)).before args0 about1 = true := code_word (m := ⟨7, 6⟩) (meth := k7m6) (c := k7c6) (by decide +kernel) rfl rfl rfl (by decide +kernel)
def codes1 : List Jvm.Cond := [Jvm.Cond.code x code maxLocals ret, Jvm.Cond.code ({ cls := "com/example/kerbline/kerbline/InputFileTrimBlanksPinLaw", name := "ch", desc := "(I)C" } : Jvm.MethodName) method_4_code (2 : Nat) (Option.some Jvm.ClassFile.FieldType.char), Jvm.Cond.code ({ cls := "com/example/kerbline/kerbline/InputFileTrimBlanksPinLaw", name := "make", desc := "(ICCCC)Ljava/lang/String;" } : Jvm.MethodName) method_5_code (5 : Nat) (Option.some (Jvm.ClassFile.FieldType.object "java/lang/String")), Jvm.Cond.code ({ cls := "java/lang/String", name := "<init>", desc := "([C)V" } : Jvm.MethodName) jdk_42_method_3_code (2 : Nat) (Option.none : Option Jvm.ClassFile.FieldType), Jvm.Cond.code ({ cls := "java/lang/String", name := "<init>", desc := "([CIILjava/lang/Void;)V" } : Jvm.MethodName) jdk_42_method_149_code (6 : Nat) (Option.none : Option Jvm.ClassFile.FieldType), Jvm.Cond.code ({ cls := "java/lang/Object", name := "<init>", desc := "()V" } : Jvm.MethodName) object_method_1_code (1 : Nat) (Option.none : Option Jvm.ClassFile.FieldType), Jvm.Cond.code ({ cls := "com/example/kerbline/kerbline/InputFile", name := "trimBlanks", desc := "(Ljava/lang/String;)Ljava/lang/String;" } : Jvm.MethodName) prog_9_method_5_code (3 : Nat) (Option.some (Jvm.ClassFile.FieldType.object "java/lang/String")), Jvm.Cond.code ({ cls := "java/lang/String", name := "length", desc := "()I" } : Jvm.MethodName) jdk_42_method_54_code (1 : Nat) (Option.some Jvm.ClassFile.FieldType.int), Jvm.Cond.code ({ cls := "java/lang/String", name := "coder", desc := "()B" } : Jvm.MethodName) jdk_42_method_152_code (1 : Nat) (Option.some Jvm.ClassFile.FieldType.byte), Jvm.Cond.code ({ cls := "java/lang/String", name := "substring", desc := "(II)Ljava/lang/String;" } : Jvm.MethodName) jdk_42_method_92_code (5 : Nat) (Option.some (Jvm.ClassFile.FieldType.object "java/lang/String")), Jvm.Cond.code ({ cls := "java/lang/String", name := "checkBoundsBeginEnd", desc := "(III)V" } : Jvm.MethodName) jdk_42_method_158_code (3 : Nat) (Option.none : Option Jvm.ClassFile.FieldType), Jvm.Cond.code ({ cls := "jdk/internal/util/Preconditions", name := "checkFromToIndex", desc := "(IIILjava/util/function/BiFunction;)I" } : Jvm.MethodName) jdk_41_method_12_code (4 : Nat) (Option.some Jvm.ClassFile.FieldType.int), Jvm.Cond.code ({ cls := "java/lang/StringUTF16", name := "compress", desc := "([CII)[B" } : Jvm.MethodName) jdk_52_method_16_code (6 : Nat) (Option.some (Jvm.ClassFile.FieldType.array Jvm.ClassFile.FieldType.byte)), Jvm.Cond.code ({ cls := "java/lang/StringUTF16", name := "compress", desc := "([CI[BII)I" } : Jvm.MethodName) jdk_52_method_21_code (7 : Nat) (Option.some Jvm.ClassFile.FieldType.int), Jvm.Cond.code ({ cls := "java/lang/StringUTF16", name := "coderFromArrayLen", desc := "([BI)B" } : Jvm.MethodName) jdk_52_method_15_code (2 : Nat) (Option.some Jvm.ClassFile.FieldType.byte), Jvm.Cond.code ({ cls := "com/example/kerbline/kerbline/InputFileTrimBlanksPinLaw", name := "blank", desc := "(C)Z" } : Jvm.MethodName) method_3_code (1 : Nat) (Option.some Jvm.ClassFile.FieldType.boolean), Jvm.Cond.code ({ cls := "java/lang/String", name := "charAt", desc := "(I)C" } : Jvm.MethodName) jdk_42_method_56_code (2 : Nat) (Option.some Jvm.ClassFile.FieldType.char), Jvm.Cond.code ({ cls := "java/lang/String", name := "isLatin1", desc := "()Z" } : Jvm.MethodName) jdk_42_method_154_code (1 : Nat) (Option.some Jvm.ClassFile.FieldType.boolean), Jvm.Cond.code ({ cls := "java/lang/StringLatin1", name := "charAt", desc := "([BI)C" } : Jvm.MethodName) jdk_43_method_2_code (2 : Nat) (Option.some Jvm.ClassFile.FieldType.char), Jvm.Cond.code ({ cls := "java/lang/String", name := "checkIndex", desc := "(II)V" } : Jvm.MethodName) jdk_42_method_155_code (2 : Nat) (Option.none : Option Jvm.ClassFile.FieldType), Jvm.Cond.code ({ cls := "jdk/internal/util/Preconditions", name := "checkIndex", desc := "(IILjava/util/function/BiFunction;)I" } : Jvm.MethodName) jdk_41_method_11_code (3 : Nat) (Option.some Jvm.ClassFile.FieldType.int), Jvm.Cond.code ({ cls := "com/example/kerbline/kerbline/InputFile", name := "isBlank", desc := "(C)Z" } : Jvm.MethodName) prog_9_method_6_code (1 : Nat) (Option.some Jvm.ClassFile.FieldType.boolean), Jvm.Cond.code ({ cls := "java/lang/StringLatin1", name := "newString", desc := "([BII)Ljava/lang/String;" } : Jvm.MethodName) jdk_43_method_47_code (3 : Nat) (Option.some (Jvm.ClassFile.FieldType.object "java/lang/String")), Jvm.Cond.code ({ cls := "java/util/Arrays", name := "copyOfRange", desc := "([BII)[B" } : Jvm.MethodName) jdk_65_method_132_code (3 : Nat) (Option.some (Jvm.ClassFile.FieldType.array Jvm.ClassFile.FieldType.byte)), Jvm.Cond.code ({ cls := "java/util/Arrays", name := "copyOfRangeByte", desc := "([BII)[B" } : Jvm.MethodName) jdk_65_method_133_code (5 : Nat) (Option.some (Jvm.ClassFile.FieldType.array Jvm.ClassFile.FieldType.byte)), Jvm.Cond.code ({ cls := "java/util/Arrays", name := "checkLength", desc := "(II)V" } : Jvm.MethodName) jdk_65_method_131_code (2 : Nat) (Option.none : Option Jvm.ClassFile.FieldType), Jvm.Cond.code ({ cls := "java/lang/Math", name := "min", desc := "(II)I" } : Jvm.MethodName) jdk_29_method_69_code (2 : Nat) (Option.some Jvm.ClassFile.FieldType.int), Jvm.Cond.code ({ cls := "java/lang/String", name := "<init>", desc := "([BB)V" } : Jvm.MethodName) jdk_42_method_151_code (3 : Nat) (Option.none : Option Jvm.ClassFile.FieldType)]
set_option maxRecDepth 65536 in
theorem codes_eq : words1.filter isCode = codes1 := rfl
theorem w_codes : ∀ c ∈ words1.filter isCode, c.before args0 about1 = true := by
  rw [codes_eq]
  intro c hc
  simp only [codes1, List.mem_cons, List.not_mem_nil, or_false] at hc
  rcases hc with rfl | rfl | rfl | rfl | rfl | rfl | rfl | rfl | rfl | rfl | rfl | rfl | rfl | rfl | rfl | rfl | rfl | rfl | rfl | rfl | rfl | rfl | rfl | rfl | rfl | rfl | rfl | rfl
  · exact w_c0
  · exact w_c1
  · exact w_c2
  · exact w_c3
  · exact w_c4
  · exact w_c5
  · exact w_c6
  · exact w_c7
  · exact w_c8
  · exact w_c9
  · exact w_c10
  · exact w_c11
  · exact w_c12
  · exact w_c13
  · exact w_c14
  · exact w_c15
  · exact w_c16
  · exact w_c17
  · exact w_c18
  · exact w_c19
  · exact w_c20
  · exact w_c21
  · exact w_c22
  · exact w_c23
  · exact w_c24
  · exact w_c25
  · exact w_c26
  · exact w_c27
set_option maxRecDepth 65536 in
theorem w_t1 : (words1.take 24).all (fun c => isCode c || c.before args0 about1) = true := by decide +kernel
set_option maxRecDepth 65536 in
theorem w_t2 : ((words1.drop 24).take 24).all (fun c => isCode c || c.before args0 about1) = true := by decide +kernel
set_option maxRecDepth 65536 in
theorem w_t3 : (((words1.drop 24).drop 24).take 24).all (fun c => isCode c || c.before args0 about1) = true := by decide +kernel
set_option maxRecDepth 65536 in
theorem w_t4 : ((((words1.drop 24).drop 24).drop 24).take 24).all (fun c => isCode c || c.before args0 about1) = true := by decide +kernel
set_option maxRecDepth 65536 in
theorem w_t5 : (((((words1.drop 24).drop 24).drop 24).drop 24).take 24).all (fun c => isCode c || c.before args0 about1) = true := by decide +kernel
set_option maxRecDepth 65536 in
theorem w_t6 : (((((words1.drop 24).drop 24).drop 24).drop 24).drop 24).all (fun c => isCode c || c.before args0 about1) = true := by decide +kernel
theorem w_tables : (allAtoms (Jvm.Cond.code x code maxLocals ret :: tables_1)).before args0 about1 = true := by
  rw [allAtoms_all]
  show words1.all (fun c => c.before args0 about1) = true
  refine all_split ?_ w_codes
  rw [← List.take_append_drop 24 words1, List.all_append, w_t1, ← List.take_append_drop 24 (words1.drop 24), List.all_append, w_t2, ← List.take_append_drop 24 ((words1.drop 24).drop 24), List.all_append, w_t3, ← List.take_append_drop 24 (((words1.drop 24).drop 24).drop 24), List.all_append, w_t4, ← List.take_append_drop 24 ((((words1.drop 24).drop 24).drop 24).drop 24), List.all_append, w_t5, w_t6]
  rfl
set_option maxRecDepth 65536 in
theorem w_rest : rest_1_c.before args0 about1 = true := by decide +kernel
set_option maxRecDepth 65536 in
theorem w_case : (Jvm.Cond.and given_1 narrow_1).before args0 about1 = true := by decide +kernel
set_option maxRecDepth 65536 in
theorem w_consts : constsHeld consts_1 about1 := Jvm.Lit.constsHeldB_iff.mp (by decide +kernel)
theorem w_applies : (headSpec (Jvm.Cond.code x code maxLocals ret :: tables_1) room_1).applies x e0.platform about1 = true :=
  (Spec.applies_iff w_frames).mpr ⟨w_running, w_runnable, w_alone, w_named, w_hears, w_ripe, w_room, w_tables⟩
theorem atStart : AtStart classFile x code maxLocals ret World_1 tables_1 room_1 Calls_1 rest_1 Pre_1 launch0 p0 e0 about1 theMethod args0 below0 :=
  ⟨lists_1, trivial, launch0.admits_env _ _ _, launch0.least_env, fairChoices_fair.cas, fairChoices_fair.clock, w_frames, w_args, w_heap, w_applies, ⟨w_consts, trivial⟩, w_rest, w_case⟩
end start1
theorem witness_1 : WitnessClaimed_1 := ⟨start1.p0, start1.e0, start1.about1, start1.theMethod, start1.args0, start1.below0, start1.atStart⟩
end Jvm.Pilot.@@N@@
