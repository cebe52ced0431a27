import JvmDerived
import JvmDerived.Pilot.@@N@@Statement
import JvmDerived.Pilot.@@N@@Code
set_option linter.unusedVariables false
set_option linter.unusedSimpArgs false
/- laws to paste: Road.backV (cut by pick.py; bodies as the Statement names them) -/
namespace Jvm.Pilot.@@N@@
namespace StrChars
open Jvm Sem ClassFile Op Lib Jvm.Stand Jvm.Free.XT Jvm.Free.ALB Jvm.Free.JM Jvm.Free
open Jvm.Lib.Cold (StaticIs)
/-- a char array whose places are chars -/
def Ch (a : Addr) (A : Cell) (U : State) : Prop := Arr .char a A U ∧ Typed .char A
theorem Ch.mv {a : Addr} {A : Cell} {U U' : State} (h : Ch a A U) (hal : U.vm.Alike U'.vm) (hh : U'.heap = U.heap) : Ch a A U' := ⟨h.1.mv hal hh, h.2⟩
theorem Ch.keep {a : Addr} {A : Cell} {U U' : State} (h : Ch a A U) (hal : U.vm.Alike U'.vm) (hk : U'.heap[a]? = some A) : Ch a A U' := ⟨h.1.keep hal hk, h.2⟩
/-- what place i of a char[]'s cell holds -/
def cv (A : Cell) (i : Nat) : Int32 := match A.slots[i]? with | some (.int x) => x | _ => 0
theorem Ch.get {a : Addr} {A : Cell} {U : State} (h : Ch a A U) {i : Nat} (hi : i < A.slots.size) : A.slots[i]? = some (.int (cv A i)) := by
  have e := Array.getElem?_eq_getElem hi
  have f := h.2 i _ e
  unfold cv; rw [e]
  generalize A.slots[i] = v at f
  cases v <;> simp [fits] at f ⊢
/-- the byte that i2b leaves of a char -/
def lo8 (x : Int32) : Int32 := x.toInt8.toInt32
theorem fits_lo8 (y : Int32) : fits .byte (.int (lo8 y)) = true := by
  have h1 := y.toInt8.le_toInt
  have h2 := y.toInt8.toInt_lt
  simp only [lo8, fits, Bool.and_eq_true, decide_eq_true_eq, Int32.le_iff_toInt_le, Int8.toInt_toInt32, show (-128 : Int32).toInt = -128 from by decide, show (127 : Int32).toInt = 127 from by decide]
  omega
/-- A' is A but that each place j of lo .. hi - 1 holds f j -/
def Laid (A A' : Cell) (lo hi : Nat) (f : Nat → Value) : Prop := A'.cls = A.cls ∧ A'.vm = A.vm ∧ A'.slots.size = A.slots.size ∧ ∀ i, A'.slots[i]? = if lo ≤ i ∧ i < hi then some (f i) else A.slots[i]?
theorem Laid.zero (A : Cell) (lo : Nat) (f : Nat → Value) : Laid A A lo (lo + 0) f := ⟨rfl, rfl, rfl, fun i => by rw [if_neg (by omega)]⟩
theorem Laid.step {A Ak : Cell} {lo k : Nat} {f : Nat → Value} {v : Value} (h : Laid A Ak lo k f) (hlo : lo ≤ k) (hk : k < Ak.slots.size) (hv : v = f k) : Laid A (Ak.setSlot k v) lo (k + 1) f := by
  refine ⟨h.1, h.2.1, by simpa [Cell.setSlot] using h.2.2.1, fun i => ?_⟩
  by_cases e : k = i
  · subst e; rw [Cell.slots_setSlot_self v hk, if_pos (by omega), hv]
  · rw [Cell.slots_setSlot_ne v e, h.2.2.2 i]
    by_cases q : lo ≤ i ∧ i < k
    · rw [if_pos q, if_pos (by omega)]
    · rw [if_neg q, if_neg (by omega)]
def U16 : String := "java/lang/StringUTF16"
namespace Cmp5
def yN : MethodName := ⟨"java/lang/StringUTF16", "compress", "([CI[BII)I"⟩
abbrev yB : ByteArray := jdk_52_method_21_code
theorem d0 : decode yB 0 = .ok (.iconst 0, 1) := by decide +kernel
theorem d1 : decode yB 1 = .ok (.istore 5, 2) := by decide +kernel
theorem d3 : decode yB 3 = .ok (.iload 5, 2) := by decide +kernel
theorem d5 : decode yB 5 = .ok (.iload 4, 2) := by decide +kernel
theorem d7 : decode yB 7 = .ok (.if_icmp (.ge) 37, 3) := by decide +kernel
theorem d10 : decode yB 10 = .ok (.aload_n 0, 1) := by decide +kernel
theorem d11 : decode yB 11 = .ok (.iload_n 1, 1) := by decide +kernel
theorem d12 : decode yB 12 = .ok (.caload, 1) := by decide +kernel
theorem d13 : decode yB 13 = .ok (.istore 6, 2) := by decide +kernel
theorem d15 : decode yB 15 = .ok (.iload 6, 2) := by decide +kernel
theorem d17 : decode yB 17 = .ok (.sipush 255, 3) := by decide +kernel
theorem d20 : decode yB 20 = .ok (.if_icmp (.le) 6, 3) := by decide +kernel
theorem d26 : decode yB 26 = .ok (.aload_n 2, 1) := by decide +kernel
theorem d27 : decode yB 27 = .ok (.iload_n 3, 1) := by decide +kernel
theorem d28 : decode yB 28 = .ok (.iload 6, 2) := by decide +kernel
theorem d30 : decode yB 30 = .ok (.i2b, 1) := by decide +kernel
theorem d31 : decode yB 31 = .ok (.bastore, 1) := by decide +kernel
theorem d32 : decode yB 32 = .ok (.iinc 1 1, 3) := by decide +kernel
theorem d35 : decode yB 35 = .ok (.iinc 3 1, 3) := by decide +kernel
theorem d38 : decode yB 38 = .ok (.iinc 5 1, 3) := by decide +kernel
theorem d41 : decode yB 41 = .ok (.goto (-38), 3) := by decide +kernel
theorem d44 : decode yB 44 = .ok (.iload 4, 2) := by decide +kernel
theorem d46 : decode yB 46 = .ok (.ireturn, 1) := by decide +kernel
def site : List Cond := []
def tab : Cond := tabOf yN yB 7 (some .int) site
def P (b : Addr) (A : Cell) (d : Addr) (B : Cell) (o q len : Nat) (args : Array Value) (s : State) : Prop := args = #[.ref b, .int (Int32.ofNat o), .ref d, .int (Int32.ofNat q), .int (Int32.ofNat len)] ∧ Ch b A s ∧ Arr .byte d B s ∧ b ≠ d ∧ o + len ≤ A.slots.size ∧ q + len ≤ B.slots.size ∧ ∀ i, i < len → ¬ 255 < cv A (o + i)
def E (b : Addr) (A : Cell) (d : Addr) (B : Cell) (o q len : Nat) (r : Option Value) (s u : State) : Prop := r = some (.int (Int32.ofNat len)) ∧ ∃ B', Put d B' s u ∧ Laid B B' q (q + len) (fun j => Value.int (lo8 (cv A (o + (j - q)))))
/-- no char of the range above 255: len; the places written hold each char's low byte -/
theorem law (l : Launch) (b : Addr) (A : Cell) (d : Addr) (B : Cell) (o q len : Nat) : Law l yN 5 5 0 0 yB 7 (some .int) site (P b A d B o q len) (E b A d B o q len) (copyLocs d q len) 0 0 := by
  refine Law.of_walk (plainFor_of_name (by decide +kernel)) (by decide +kernel) (by decide +kernel) (by decide) (fun _ _ h => by rw [h.1]; rfl) (fun _ U U' hal hh h => ⟨h.1, h.2.1.mv hal hh, h.2.2.1.mv hal hh, h.2.2.2⟩) (fun r U U' V V' h1 hal h2 h => ⟨h.1, h.2.elim fun B' q => ⟨B', q.1.mv h1 h2, q.2⟩⟩) ?_
  intro p e s m args below meth c s₁ X0 hexec hbytes hml hret hlk hnm hown hh0 W hP
  obtain ⟨rfl, hA, hB, hne, l1, l2, hp⟩ := hP
  have c1 : Steps p.tables e below (s₁.setTop (entryFrame m #[.ref b, .int (Int32.ofNat o), .ref d, .int (Int32.ofNat q), .int (Int32.ofNat len)] 7)) (s₁.setTop (mkF m 0 #[.val (.ref b), .val (.int (Int32.ofNat o)), .val (.ref d), .val (.int (Int32.ofNat q)), .val (.int (Int32.ofNat len)), .unset, .unset] [])) := entry rfl
  have hA0 := hA.1.mv X0.warmed.alike hh0
  have hB0 := hB.mv X0.warmed.alike hh0
  have a31 := hA.1.2.2.2
  have c2 : Steps p.tables e below (s₁.setTop (entryFrame m #[.ref b, .int (Int32.ofNat o), .ref d, .int (Int32.ofNat q), .int (Int32.ofNat len)] 7)) (s₁.setTop (mkF m 3 #[.val (.ref b), .val (.int (Int32.ofNat o)), .val (.ref d), .val (.int (Int32.ofNat q)), .val (.int (Int32.ofNat len)), .val (.int 0), .unset] [])) := c1.trans (by
    refine iconstV X0.here hexec rfl 0 (hb hbytes d0) (by decide) ?_
    refine XS.istore X0.here hexec rfl (hb hbytes d1) rfl rfl ?_
    exact Steps.refl _)
  have loop : ∀ (r i : Nat), i + r = len → ∀ (z : Slot), (z = .unset ∨ ∃ w, z = .val w ∧ w.category = 1) → ∀ (Tl : State) (Bk : Cell), Stand p l e { frames := 0, locals := 0, cells := 0, slots := 0 } s m #[.ref b, .int (Int32.ofNat o), .ref d, .int (Int32.ofNat q), .int (Int32.ofNat len)] below meth c Tl ([] ++ copyLocs d q i) 0 0 → Put d Bk s₁ Tl → Laid B Bk q (q + i) (fun j => Value.int (lo8 (cv A (o + (j - q))))) →
      Steps p.tables e below (s₁.setTop (entryFrame m #[.ref b, .int (Int32.ofNat o), .ref d, .int (Int32.ofNat q), .int (Int32.ofNat len)] 7)) (Tl.setTop (mkF m 3 #[.val (.ref b), .val (.int (Int32.ofNat (o + i))), .val (.ref d), .val (.int (Int32.ofNat (q + i))), .val (.int (Int32.ofNat len)), .val (.int (Int32.ofNat i)), z] [])) → ∃ (T' : State) (B' : Cell) (z' : Slot), Stand p l e { frames := 0, locals := 0, cells := 0, slots := 0 } s m #[.ref b, .int (Int32.ofNat o), .ref d, .int (Int32.ofNat q), .int (Int32.ofNat len)] below meth c T' ([] ++ copyLocs d q len) 0 0 ∧ Put d B' s₁ T' ∧ Laid B B' q (q + len) (fun j => Value.int (lo8 (cv A (o + (j - q))))) ∧
      Steps p.tables e below (s₁.setTop (entryFrame m #[.ref b, .int (Int32.ofNat o), .ref d, .int (Int32.ofNat q), .int (Int32.ofNat len)] 7)) (T'.setTop (mkF m 3 #[.val (.ref b), .val (.int (Int32.ofNat (o + len))), .val (.ref d), .val (.int (Int32.ofNat (q + len))), .val (.int (Int32.ofNat len)), .val (.int (Int32.ofNat len)), z'] [])) := by
    intro r
    induction r with
    | zero =>
      intro i hi z hz Tl Bk Xl pl fl cl
      have hil : i = len := by omega
      rw [hil] at Xl fl cl
      exact ⟨Tl, Bk, z, Xl, pl, fl, cl⟩
    | succ r ih =>
      intro i hi z hz Tl Bk Xl pl fl cl
      have all := X0.warmed.alike.symm.trans Xl.warmed.alike
      have hAl := hA0.keep all (pl.other hne hA0.1)
      have hBk := hB0.like all pl.1 fl.1 fl.2.1 fl.2.2.1
      have hlt : q + i < Bk.slots.size := by rw [fl.2.2.1]; omega
      have c3 : Steps p.tables e below (s₁.setTop (entryFrame m #[.ref b, .int (Int32.ofNat o), .ref d, .int (Int32.ofNat q), .int (Int32.ofNat len)] 7)) (Tl.setTop (mkF m 12 #[.val (.ref b), .val (.int (Int32.ofNat (o + i))), .val (.ref d), .val (.int (Int32.ofNat (q + i))), .val (.int (Int32.ofNat len)), .val (.int (Int32.ofNat i)), z] [.int (Int32.ofNat (o + i)), .ref b])) := cl.trans (by
        refine XS.iload Xl.here hexec rfl (hb hbytes d3) rfl ?_
        refine XS.iload Xl.here hexec rfl (hb hbytes d5) rfl ?_
        refine XS.icmpNo Xl.here hexec rfl (hb hbytes d7) rfl (ii_ge_f (lt32 (by omega) (by omega))) ?_
        refine XS.aloadN Xl.here hexec rfl (hb hbytes d10) rfl rfl ?_
        refine XS.iloadN Xl.here hexec rfl (hb hbytes d11) rfl ?_
        exact Steps.refl _)
      have c4 : Steps p.tables e below (s₁.setTop (entryFrame m #[.ref b, .int (Int32.ofNat o), .ref d, .int (Int32.ofNat q), .int (Int32.ofNat len)] 7)) (Tl.setTop (mkF m 13 #[.val (.ref b), .val (.int (Int32.ofNat (o + i))), .val (.ref d), .val (.int (Int32.ofNat (q + i))), .val (.int (Int32.ofNat len)), .val (.int (Int32.ofNat i)), z] [.int (cv A (o + i))])) := c3.trans (by
        refine Xl.aget hexec hAl rfl (hA.get (i := o + i) (by omega)) rfl rfl (hb hbytes d12) ?_
        exact Steps.refl _)
      have c5 : Steps p.tables e below (s₁.setTop (entryFrame m #[.ref b, .int (Int32.ofNat o), .ref d, .int (Int32.ofNat q), .int (Int32.ofNat len)] 7)) (Tl.setTop (mkF m 15 #[.val (.ref b), .val (.int (Int32.ofNat (o + i))), .val (.ref d), .val (.int (Int32.ofNat (q + i))), .val (.int (Int32.ofNat len)), .val (.int (Int32.ofNat i)), .val (.int (cv A (o + i)))] [])) := c4.trans (by
        refine XS.istoreS Xl.here hexec rfl (hb hbytes d13) rfl rfl hz ?_
        exact Steps.refl _)
      have c6 : Steps p.tables e below (s₁.setTop (entryFrame m #[.ref b, .int (Int32.ofNat o), .ref d, .int (Int32.ofNat q), .int (Int32.ofNat len)] 7)) (Tl.setTop (mkF m 31 #[.val (.ref b), .val (.int (Int32.ofNat (o + i))), .val (.ref d), .val (.int (Int32.ofNat (q + i))), .val (.int (Int32.ofNat len)), .val (.int (Int32.ofNat i)), .val (.int (cv A (o + i)))] [.int (lo8 (cv A (o + i))), .int (Int32.ofNat (q + i)), .ref d])) := c5.trans (by
        refine XS.iload Xl.here hexec rfl (hb hbytes d15) rfl ?_
        refine sipushV Xl.here hexec rfl 255 (hb hbytes d17) (by decide) ?_
        refine XS.icmpYes Xl.here hexec rfl (pc0 := 20) rfl (hb hbytes d20) rfl (ii_le_t (hp i (by omega))) (by decide) rfl ?_
        refine XS.aloadN Xl.here hexec rfl (hb hbytes d26) rfl rfl ?_
        refine XS.iloadN Xl.here hexec rfl (hb hbytes d27) rfl ?_
        refine XS.iload Xl.here hexec rfl (hb hbytes d28) rfl ?_
        refine i2b Xl.here hexec rfl (hb hbytes d30) rfl ?_
        exact Steps.refl _)
      obtain ⟨T7, X7, p7, st7⟩ := Xl.aput hexec hBk rfl hlt rfl (fits_lo8 (cv A (o + i))) (g := (mkF m 31 #[.val (.ref b), .val (.int (Int32.ofNat (o + i))), .val (.ref d), .val (.int (Int32.ofNat (q + i))), .val (.int (Int32.ofNat len)), .val (.int (Int32.ofNat i)), .val (.int (cv A (o + i)))] [.int (lo8 (cv A (o + i))), .int (Int32.ofNat (q + i)), .ref d])) rfl (rest := []) rfl (hb hbytes d31)
      have c8 : Steps p.tables e below (s₁.setTop (entryFrame m #[.ref b, .int (Int32.ofNat o), .ref d, .int (Int32.ofNat q), .int (Int32.ofNat len)] 7)) (T7.setTop (mkF m 32 #[.val (.ref b), .val (.int (Int32.ofNat (o + i))), .val (.ref d), .val (.int (Int32.ofNat (q + i))), .val (.int (Int32.ofNat len)), .val (.int (Int32.ofNat i)), .val (.int (cv A (o + i)))] [])) := c6.trans (st7 _ (Steps.refl _))
      have c9 : Steps p.tables e below (s₁.setTop (entryFrame m #[.ref b, .int (Int32.ofNat o), .ref d, .int (Int32.ofNat q), .int (Int32.ofNat len)] 7)) (T7.setTop (mkF m 3 #[.val (.ref b), .val (.int (Int32.ofNat (o + i) + 1)), .val (.ref d), .val (.int (Int32.ofNat (q + i) + 1)), .val (.int (Int32.ofNat len)), .val (.int (Int32.ofNat i + 1)), .val (.int (cv A (o + i)))] [])) := c8.trans (by
        refine iincV X7.here hexec rfl 1 (hb hbytes d32) (by decide) rfl rfl ?_
        refine iincV X7.here hexec rfl 1 (hb hbytes d35) (by decide) rfl rfl ?_
        refine iincV X7.here hexec rfl 1 (hb hbytes d38) (by decide) rfl rfl ?_
        refine XS.goto X7.here hexec rfl (pc0 := 41) rfl (hb hbytes d41) (by decide) rfl ?_
        exact Steps.refl _)
      have c10 : Steps p.tables e below (s₁.setTop (entryFrame m #[.ref b, .int (Int32.ofNat o), .ref d, .int (Int32.ofNat q), .int (Int32.ofNat len)] 7)) (T7.setTop (mkF m 3 #[.val (.ref b), .val (.int (Int32.ofNat (o + (i + 1)))), .val (.ref d), .val (.int (Int32.ofNat (q + (i + 1)))), .val (.int (Int32.ofNat len)), .val (.int (Int32.ofNat (i + 1))), .val (.int (cv A (o + i)))] [])) := by
        have := c9
        rw [succ32, succ32, succ32] at this
        exact this
      exact ih (i + 1) (by omega) _ (Or.inr ⟨_, rfl, rfl⟩) T7 _ (by rw [copyLocs_step, ← List.append_assoc]; exact X7) (pl.trans p7) (fl.step (by omega) hlt (by simp)) c10
  obtain ⟨T9, B9, z9, X9, p9, f9, g9⟩ := loop len 0 (by omega) .unset (Or.inl rfl) s₁ B (by simpa [copyLocs] using X0) ⟨hB0.1, fun _ _ => rfl, rfl⟩ (Laid.zero _ _ _) c2
  have c11 : Steps p.tables e below (s₁.setTop (entryFrame m #[.ref b, .int (Int32.ofNat o), .ref d, .int (Int32.ofNat q), .int (Int32.ofNat len)] 7)) (T9.setTop (mkF m 46 #[.val (.ref b), .val (.int (Int32.ofNat (o + len))), .val (.ref d), .val (.int (Int32.ofNat (q + len))), .val (.int (Int32.ofNat len)), .val (.int (Int32.ofNat len)), z9] [.int (Int32.ofNat len)])) := g9.trans (by
    refine XS.iload X9.here hexec rfl (hb hbytes d3) rfl ?_
    refine XS.iload X9.here hexec rfl (hb hbytes d5) rfl ?_
    refine XS.icmpYes X9.here hexec rfl (pc0 := 7) rfl (hb hbytes d7) rfl (ii_ge_t (nlt32 (by omega) (Nat.le_refl _))) (by decide) rfl ?_
    refine XS.iload X9.here hexec rfl (hb hbytes d44) rfl ?_
    exact Steps.refl _)
  exact ⟨T9, some (.int (Int32.ofNat len)), _, _, _, X9, by simp, rfl, rfl, (fun h => by cases h), ⟨rfl, B9, p9.from hh0, f9⟩, fun fs hl => c11.trans (X9.ireturnOut hexec hret rfl (Or.inl rfl) (hb hbytes d46) hl)⟩
end Cmp5
namespace Cmp3
def yN : MethodName := ⟨"java/lang/StringUTF16", "compress", "([CII)[B"⟩
abbrev yB : ByteArray := jdk_52_method_16_code
theorem d0 : decode yB 0 = .ok (.iload_n 2, 1) := by decide +kernel
theorem d1 : decode yB 1 = .ok (.newarray .byte, 2) := by decide +kernel
theorem d3 : decode yB 3 = .ok (.astore_n 3, 1) := by decide +kernel
theorem d4 : decode yB 4 = .ok (.aload_n 0, 1) := by decide +kernel
theorem d5 : decode yB 5 = .ok (.iload_n 1, 1) := by decide +kernel
theorem d6 : decode yB 6 = .ok (.aload_n 3, 1) := by decide +kernel
theorem d7 : decode yB 7 = .ok (.iconst 0, 1) := by decide +kernel
theorem d8 : decode yB 8 = .ok (.iload_n 2, 1) := by decide +kernel
theorem d9 : decode yB 9 = .ok (.invokestatic 115, 3) := by decide +kernel
theorem d12 : decode yB 12 = .ok (.istore 4, 2) := by decide +kernel
theorem d14 : decode yB 14 = .ok (.iload 4, 2) := by decide +kernel
theorem d16 : decode yB 16 = .ok (.iload_n 2, 1) := by decide +kernel
theorem d17 : decode yB 17 = .ok (.if_icmp (.eq) 40, 3) := by decide +kernel
theorem d57 : decode yB 57 = .ok (.aload_n 3, 1) := by decide +kernel
theorem d58 : decode yB 58 = .ok (.areturn, 1) := by decide +kernel
def site : List Cond := [.arrayClass .byte, Cmp5.tab] ++ staticW U16 115 Cmp5.yN
def tab : Cond := tabOf yN yB 6 (some (.array .byte)) site
def P (b : Addr) (A : Cell) (o len : Nat) (args : Array Value) (s : State) : Prop := args = #[.ref b, .int (Int32.ofNat o), .int (Int32.ofNat len)] ∧ Ch b A s ∧ o + len ≤ A.slots.size ∧ len ≤ 536870912 ∧ ∀ i, i < len → ¬ 255 < cv A (o + i)
def E (b : Addr) (A : Cell) (o len : Nat) (r : Option Value) (s u : State) : Prop := NewArr .byte "[B" len (fun j => .int (lo8 (cv A (o + j)))) r s u ∧ u.heap.size = s.heap.size + 1
/-- no char of the range above 255: a new byte[] of their low bytes -/
theorem law (l : Launch) (b : Addr) (A : Cell) (o len : Nat) : Law l yN 3 3 1 18 yB 6 (some (.array .byte)) site (P b A o len) (E b A o len) [] 1 len := by
  refine Law.of_walk (plainFor_of_name (by decide +kernel)) (by decide +kernel) (by decide +kernel) (by decide) (fun _ _ h => by rw [h.1]; rfl) (fun _ U U' hal hh h => ⟨h.1, h.2.1.mv hal hh, h.2.2⟩) (fun r U U' V V' h1 hal h2 h => ⟨NewArr.mv r U U' V V' h1 hal h2 h.1, by rw [h1, h2]; exact h.2⟩) ?_
  intro p e s m args below meth c s₁ X0 hexec hbytes hml hret hlk hnm hown hh0 W hP
  obtain ⟨rfl, hA, l1, l2, hp⟩ := hP
  have a31 := hA.1.2.2.2
  have c1 : Steps p.tables e below (s₁.setTop (entryFrame m #[.ref b, .int (Int32.ofNat o), .int (Int32.ofNat len)] 6)) (s₁.setTop (mkF m 0 #[.val (.ref b), .val (.int (Int32.ofNat o)), .val (.int (Int32.ofNat len)), .unset, .unset, .unset] [])) := entry rfl
  have c2 : Steps p.tables e below (s₁.setTop (entryFrame m #[.ref b, .int (Int32.ofNat o), .int (Int32.ofNat len)] 6)) (s₁.setTop (mkF m 1 #[.val (.ref b), .val (.int (Int32.ofNat o)), .val (.int (Int32.ofNat len)), .unset, .unset, .unset] [.int (Int32.ofNat len)])) := c1.trans (by
    refine XS.iloadN X0.here hexec rfl (hb hbytes d0) rfl ?_
    exact Steps.refl _)
  obtain ⟨T3, B3, X3, ba3, bs3, bv3, bh3, bf3, st3⟩ := X0.anew hexec (atype := .byte) (wk W (.arrayClass .byte)) rfl (by show len * 1 ≤ _; omega) (by omega) (g := (mkF m 1 #[.val (.ref b), .val (.int (Int32.ofNat o)), .val (.int (Int32.ofNat len)), .unset, .unset, .unset] [.int (Int32.ofNat len)])) rfl (hb hbytes d1) (rest := []) rfl (Nat.le_refl _) (by show 0 + len ≤ len; omega)
  rw [hh0] at ba3 st3
  have kp3 : XT.Kept s T3 := (XT.Kept.of_eq hh0).push bh3
  have hA3 := hA.keep X3.warmed.alike (kp3 _ _ hA.1.1)
  have hne : b ≠ s.heap.size := hA.1.ne
  have c4 : Steps p.tables e below (s₁.setTop (entryFrame m #[.ref b, .int (Int32.ofNat o), .int (Int32.ofNat len)] 6)) (T3.setTop (mkF m 3 #[.val (.ref b), .val (.int (Int32.ofNat o)), .val (.int (Int32.ofNat len)), .unset, .unset, .unset] [.ref s.heap.size])) := c2.trans (st3 _ (Steps.refl _))
  have c5 : Steps p.tables e below (s₁.setTop (entryFrame m #[.ref b, .int (Int32.ofNat o), .int (Int32.ofNat len)] 6)) (T3.setTop (mkF m 9 #[.val (.ref b), .val (.int (Int32.ofNat o)), .val (.int (Int32.ofNat len)), .val (.ref s.heap.size), .unset, .unset] [.int (Int32.ofNat len), .int 0, .ref s.heap.size, .int (Int32.ofNat o), .ref b])) := c4.trans (by
    refine XS.astoreN X3.here hexec rfl (hb hbytes d3) rfl rfl rfl ?_
    refine XS.aloadN X3.here hexec rfl (hb hbytes d4) rfl rfl ?_
    refine XS.iloadN X3.here hexec rfl (hb hbytes d5) rfl ?_
    refine XS.aloadN X3.here hexec rfl (hb hbytes d6) rfl rfl ?_
    refine iconstV X3.here hexec rfl 0 (hb hbytes d7) (by decide) ?_
    refine XS.iloadN X3.here hexec rfl (hb hbytes d8) rfl ?_
    exact Steps.refl _)
  obtain ⟨v6, T6, X6, E6, g6⟩ := X3.callS hexec (Cmp5.law l b A s.heap.size B3 o 0 len) hown (wks W (staticW U16 115 Cmp5.yN)) (wk W Cmp5.tab) (W := 0) (Nat.le_of_ble_eq_true rfl) (Nat.le_of_ble_eq_true rfl) (Nat.le_refl _) (by show 0 + len + 0 ≤ len; omega) (g := (mkF m 9 #[.val (.ref b), .val (.int (Int32.ofNat o)), .val (.int (Int32.ofNat len)), .val (.ref s.heap.size), .unset, .unset] [.int (Int32.ofNat len), .int (Int32.ofNat 0), .ref s.heap.size, .int (Int32.ofNat o), .ref b])) rfl (by rw [hml]; rfl) c5 (argsL := [.ref b, .int (Int32.ofNat o), .ref s.heap.size, .int (Int32.ofNat 0), .int (Int32.ofNat len)]) (rest := []) rfl rfl (by show 2 * 0 + 0 ≤ _; decide) (hb hbytes d9) (⟨rfl, hA3, ba3, hne, l1, by rw [bs3]; simp, hp⟩)
  obtain ⟨rfl, B6, p6, f6⟩ := E6
  have c7 : Steps p.tables e below (s₁.setTop (entryFrame m #[.ref b, .int (Int32.ofNat o), .int (Int32.ofNat len)] 6)) (T6.setTop (mkF m 12 #[.val (.ref b), .val (.int (Int32.ofNat o)), .val (.int (Int32.ofNat len)), .val (.ref s.heap.size), .unset, .unset] [.int (Int32.ofNat len)])) := g6
  have c8 : Steps p.tables e below (s₁.setTop (entryFrame m #[.ref b, .int (Int32.ofNat o), .int (Int32.ofNat len)] 6)) (T6.setTop (mkF m 58 #[.val (.ref b), .val (.int (Int32.ofNat o)), .val (.int (Int32.ofNat len)), .val (.ref s.heap.size), .val (.int (Int32.ofNat len)), .unset] [.ref s.heap.size])) := c7.trans (by
    refine XS.istore X6.here hexec rfl (hb hbytes d12) rfl rfl ?_
    refine XS.iload X6.here hexec rfl (hb hbytes d14) rfl ?_
    refine XS.iloadN X6.here hexec rfl (hb hbytes d16) rfl ?_
    refine XS.icmpYes X6.here hexec rfl (pc0 := 17) rfl (hb hbytes d17) rfl (ii_eq_t rfl) (by decide) rfl ?_
    refine XS.aloadN X6.here hexec rfl (hb hbytes d57) rfl rfl ?_
    exact Steps.refl _)
  have X8 := X6.wide (L' := []) (cells' := 1) (slots' := len) (fun x hx hlt => by
    simp only [List.nil_append, copyLocs, List.mem_map, List.mem_range] at hx
    obtain ⟨i, -, rfl⟩ := hx
    exact absurd hlt (Nat.lt_irrefl _)) (Nat.le_refl _) (by omega)
  exact ⟨T6, some (.ref s.heap.size), _, _, _, X8, rfl, rfl, rfl, (fun h => by cases h), ⟨⟨rfl, B6, ba3.like (X3.warmed.alike.symm.trans X6.warmed.alike) p6.1 f6.1 f6.2.1 f6.2.2.1, f6.2.1.trans bv3, by rw [X6.warmed.alike.findClass, f6.1]; exact bf3, by rw [f6.2.2.1, bs3]; simp, fun j hj => by rw [f6.2.2.2 j, if_pos (by omega)]; rfl, kp3.put p6 (Nat.le_refl _)⟩, by rw [p6.2.2, bh3, hh0]; simp⟩, fun fs hl => c8.trans (X8.areturnOut hexec rfl hret rfl (hb hbytes d58) hl)⟩
end Cmp3
namespace CodL
def yN : MethodName := ⟨"java/lang/StringUTF16", "coderFromArrayLen", "([BI)B"⟩
abbrev yB : ByteArray := jdk_52_method_15_code
theorem d0 : decode yB 0 = .ok (.iload_n 1, 1) := by decide +kernel
theorem d1 : decode yB 1 = .ok (.aload_n 0, 1) := by decide +kernel
theorem d2 : decode yB 2 = .ok (.arraylength, 1) := by decide +kernel
theorem d3 : decode yB 3 = .ok (.isub, 1) := by decide +kernel
theorem d4 : decode yB 4 = .ok (.bipush 31, 2) := by decide +kernel
theorem d6 : decode yB 6 = .ok (.iushr, 1) := by decide +kernel
theorem d7 : decode yB 7 = .ok (.i2b, 1) := by decide +kernel
theorem d8 : decode yB 8 = .ok (.ireturn, 1) := by decide +kernel
def site : List Cond := []
def tab : Cond := tabOf yN yB 2 (some .byte) site
def P (d : Addr) (B : Cell) (args : Array Value) (s : State) : Prop := args = #[.ref d, .int (Int32.ofNat B.slots.size)] ∧ Arr .byte d B s
def E (r : Option Value) (s u : State) : Prop := XT.PureE (some (.int 0)) r s u
/-- an array as long as the number of chars: LATIN1 -/
theorem law (l : Launch) (d : Addr) (B : Cell) : Law l yN 2 2 0 0 yB 2 (some .byte) site (P d B) E [] 0 0 := by
  refine Law.of_walk (plainFor_of_name (by decide +kernel)) (by decide +kernel) (by decide +kernel) (by decide) (fun _ _ h => by rw [h.1]; rfl) (fun _ U U' hal hh h => ⟨h.1, h.2.mv hal hh⟩) (fun r U U' V V' h1 hal h2 h => XT.PureE.mv r U U' V V' h1 hal h2 h) ?_
  intro p e s m args below meth c s₁ X0 hexec hbytes hml hret hlk hnm hown hh0 W hP
  obtain ⟨rfl, hB⟩ := hP
  have hB0 := hB.mv X0.warmed.alike hh0
  have c1 : Steps p.tables e below (s₁.setTop (entryFrame m #[.ref d, .int (Int32.ofNat B.slots.size)] 2)) (s₁.setTop (mkF m 0 #[.val (.ref d), .val (.int (Int32.ofNat B.slots.size))] [])) := entry rfl
  have c2 : Steps p.tables e below (s₁.setTop (entryFrame m #[.ref d, .int (Int32.ofNat B.slots.size)] 2)) (s₁.setTop (mkF m 2 #[.val (.ref d), .val (.int (Int32.ofNat B.slots.size))] [.ref d, .int (Int32.ofNat B.slots.size)])) := c1.trans (by
    refine XS.iloadN X0.here hexec rfl (hb hbytes d0) rfl ?_
    refine XS.aloadN X0.here hexec rfl (hb hbytes d1) rfl rfl ?_
    exact Steps.refl _)
  have c3 : Steps p.tables e below (s₁.setTop (entryFrame m #[.ref d, .int (Int32.ofNat B.slots.size)] 2)) (s₁.setTop (mkF m 8 #[.val (.ref d), .val (.int (Int32.ofNat B.slots.size))] [.int (lo8 (ushr (Int32.ofNat B.slots.size - Int32.ofNat B.slots.size) 31))])) := c2.trans (by
    refine X0.alen hexec hB0 rfl rfl (hb hbytes d2) ?_
    refine XS.isub X0.here hexec rfl (hb hbytes d3) rfl ?_
    refine bipushV X0.here hexec rfl 31 (hb hbytes d4) (by decide) ?_
    refine iushr X0.here hexec rfl (hb hbytes d6) rfl ?_
    refine i2b X0.here hexec rfl (hb hbytes d7) rfl ?_
    exact Steps.refl _)
  have e0 : lo8 (ushr (Int32.ofNat B.slots.size - Int32.ofNat B.slots.size) 31) = 0 := by rw [Int32.sub_self]; decide
  rw [e0] at c3
  exact ⟨s₁, some (.int 0), _, _, _, X0, rfl, rfl, rfl, (fun h => by cases h), ⟨rfl, hh0⟩, fun fs hl => c3.trans (X0.ireturnOut hexec hret rfl (Or.inr (Or.inr (Or.inl rfl))) (hb hbytes d8) hl)⟩
end CodL
/-- the String at a is Latin-1 over a new byte[] (the heap's one new cell): the low bytes of the len chars of A from o on; every cell but a is kept -/
def Got (a : Addr) (D : Cell) (fV fC : Field) (A : Cell) (o len : Nat) (r : Option Value) (s u : State) : Prop := r = none ∧ ∃ D' V : Cell, Blank "java/lang/String" a D' u ∧ Same D D' [fV.slot, fC.slot] ∧ D'.slots[fV.slot]? = some (.ref s.heap.size) ∧ D'.slots[fC.slot]? = some (.int 0) ∧ Arr .byte s.heap.size V u ∧ V.vm = .none ∧ u.vm.findClass "[B" = some V.cls ∧ V.slots.size = len ∧ (∀ j, j < len → V.slots[j]? = some (.int (lo8 (cv A (o + j))))) ∧ (∀ (y : Addr) (c : Cell), y ≠ a → s.heap[y]? = some c → u.heap[y]? = some c) ∧ u.heap.size = s.heap.size + 1
theorem Got.mv {a : Addr} {D A : Cell} {fV fC : Field} {o len : Nat} : ∀ r (U U' V V' : State), U'.heap = U.heap → V.vm.Alike V'.vm → V'.heap = V.heap → Got a D fV fC A o len r U V → Got a D fV fC A o len r U' V' :=
  fun r U U' V V' h1 hal h2 ⟨e0, D', X, a1, a2, a3, a4, a5, a6, a7, a8, a9, a10, a11⟩ => ⟨e0, D', X, a1.mv hal h2, a2, by rw [h1]; exact a3, a4, by rw [h1]; exact a5.mv hal h2, a6, by rw [hal.findClass]; exact a7, a8, a9, by rw [h1, h2]; exact a10, by rw [h1, h2]; exact a11⟩
namespace New4
def yN : MethodName := ⟨"java/lang/String", "<init>", "([CIILjava/lang/Void;)V"⟩
abbrev yB : ByteArray := jdk_42_method_149_code
theorem d0 : decode yB 0 = .ok (.aload_n 0, 1) := by decide +kernel
theorem d1 : decode yB 1 = .ok (.invokespecial 1, 3) := by decide +kernel
theorem d4 : decode yB 4 = .ok (.iload_n 3, 1) := by decide +kernel
theorem d5 : decode yB 5 = .ok (.ifCond (.ne) 22, 3) := by decide +kernel
theorem d27 : decode yB 27 = .ok (.getstatic 38, 3) := by decide +kernel
theorem d30 : decode yB 30 = .ok (.ifCond (.eq) 28, 3) := by decide +kernel
theorem d33 : decode yB 33 = .ok (.aload_n 1, 1) := by decide +kernel
theorem d34 : decode yB 34 = .ok (.iload_n 2, 1) := by decide +kernel
theorem d35 : decode yB 35 = .ok (.iload_n 3, 1) := by decide +kernel
theorem d36 : decode yB 36 = .ok (.invokestatic 177, 3) := by decide +kernel
theorem d39 : decode yB 39 = .ok (.astore 5, 2) := by decide +kernel
theorem d41 : decode yB 41 = .ok (.aload_n 0, 1) := by decide +kernel
theorem d42 : decode yB 42 = .ok (.aload 5, 2) := by decide +kernel
theorem d44 : decode yB 44 = .ok (.iload_n 3, 1) := by decide +kernel
theorem d45 : decode yB 45 = .ok (.invokestatic 47, 3) := by decide +kernel
theorem d48 : decode yB 48 = .ok (.putfield 15, 3) := by decide +kernel
theorem d51 : decode yB 51 = .ok (.aload_n 0, 1) := by decide +kernel
theorem d52 : decode yB 52 = .ok (.aload 5, 2) := by decide +kernel
theorem d54 : decode yB 54 = .ok (.putfield 9, 3) := by decide +kernel
theorem d57 : decode yB 57 = .ok (.return_, 1) := by decide +kernel
def site : List Cond := [.fieldLink "java/lang/String" 38 "java/lang/String" "COMPACT_STRINGS" "Z", Cmp3.tab, CodL.tab, .laysFinal "java/lang/String" "java/lang/String" "value" "[B", .fieldLink "java/lang/String" 9 "java/lang/String" "value" "[B", .laysFinal "java/lang/String" "java/lang/String" "coder" "B", .fieldLink "java/lang/String" 15 "java/lang/String" "coder" "B"] ++ objW "java/lang/String" 1 ++ staticW "java/lang/String" 177 Cmp3.yN ++ staticW "java/lang/String" 47 CodL.yN
def tab : Cond := tabOf yN yB 6 none site
def P (a : Addr) (D : Cell) (fV fC : Field) (b : Addr) (A : Cell) (z : Int32) (o len : Nat) (args : Array Value) (s : State) : Prop := args = #[.ref a, .ref b, .int (Int32.ofNat o), .int (Int32.ofNat len), .null] ∧ Blank "java/lang/String" a D s ∧ Found "java/lang/String" "value" "[B" fV s ∧ Found "java/lang/String" "coder" "B" fC s ∧ Ch b A s ∧ StaticIs s "java/lang/String" "COMPACT_STRINGS" "Z" (.int z) ∧ ¬ z = 0 ∧ 0 < len ∧ o + len ≤ A.slots.size ∧ len ≤ 536870912 ∧ ∀ i, i < len → ¬ 255 < cv A (o + i)
def E (a : Addr) (D : Cell) (fV fC : Field) (A : Cell) (o len : Nat) (r : Option Value) (s u : State) : Prop := Got a D fV fC A o len r s u
/-- len > 0, no char of the range above 255: a Latin-1 String of their low bytes -/
theorem law (l : Launch) (a : Addr) (D : Cell) (fV fC : Field) (b : Addr) (A : Cell) (z : Int32) (o len : Nat) : Law l yN 5 4 2 35 yB 6 none site (P a D fV fC b A z o len) (E a D fV fC A o len) [⟨a, fC.slot⟩, ⟨a, fV.slot⟩] 1 len := by
  refine Law.of_walk (plainFor_of_name (by decide +kernel)) (by decide +kernel) (by decide +kernel) (by decide) (fun _ _ h => by rw [h.1]; rfl) (fun _ U U' hal hh h => ⟨h.1, h.2.1.mv hal hh, h.2.2.1.al hal, h.2.2.2.1.al hal, h.2.2.2.2.1.mv hal hh, h.2.2.2.2.2.1.there hal hh, h.2.2.2.2.2.2⟩) (fun r U U' V V' h1 hal h2 h => Got.mv r U U' V V' h1 hal h2 h) ?_
  intro p e s m args below meth c s₁ X0 hexec hbytes hml hret hlk hnm hown hh0 W hP
  obtain ⟨rfl, hB, f1, f2, hA, s1, hz, l0, l1, l2, hp⟩ := hP
  have a31 := hA.1.2.2.2
  have c1 : Steps p.tables e below (s₁.setTop (entryFrame m #[.ref a, .ref b, .int (Int32.ofNat o), .int (Int32.ofNat len), .null] 6)) (s₁.setTop (mkF m 0 #[.val (.ref a), .val (.ref b), .val (.int (Int32.ofNat o)), .val (.int (Int32.ofNat len)), .val .null, .unset] [])) := entry rfl
  have c2 : Steps p.tables e below (s₁.setTop (entryFrame m #[.ref a, .ref b, .int (Int32.ofNat o), .int (Int32.ofNat len), .null] 6)) (s₁.setTop (mkF m 1 #[.val (.ref a), .val (.ref b), .val (.int (Int32.ofNat o)), .val (.int (Int32.ofNat len)), .val .null, .unset] [.ref a])) := c1.trans (by
    refine XS.aloadN X0.here hexec rfl (hb hbytes d0) rfl rfl ?_
    exact Steps.refl _)
  obtain ⟨T3, X3, q3, st3⟩ := X0.oinit hexec hown (wks W (objW "java/lang/String" 1)) (g := (mkF m 1 #[.val (.ref a), .val (.ref b), .val (.int (Int32.ofNat o)), .val (.int (Int32.ofNat len)), .val .null, .unset] [.ref a])) rfl (by rw [hml]; rfl) (rest := []) rfl (hb hbytes d1) (W := 0) (by show 2 * 0 + 0 ≤ _; decide) (Nat.le_of_ble_eq_true rfl) (Nat.le_of_ble_eq_true rfl)
  have hh3 := q3.trans hh0
  have c4 : Steps p.tables e below (s₁.setTop (entryFrame m #[.ref a, .ref b, .int (Int32.ofNat o), .int (Int32.ofNat len), .null] 6)) (T3.setTop (mkF m 27 #[.val (.ref a), .val (.ref b), .val (.int (Int32.ofNat o)), .val (.int (Int32.ofNat len)), .val .null, .unset] [])) := (c2.trans (st3 _ (Steps.refl _))).trans (by
    refine XS.iloadN X3.here hexec rfl (hb hbytes d4) rfl ?_
    refine XS.ifYes X3.here hexec rfl (pc0 := 5) rfl (hb hbytes d5) rfl (i0_ne_t (nz32 (by omega) l0)) (by decide) rfl ?_
    exact Steps.refl _)
  obtain ⟨T5, X5, q5, st5⟩ := X3.sget hexec hown (wk W (.fieldLink "java/lang/String" 38 "java/lang/String" "COMPACT_STRINGS" "Z")) s1 (fun _ _ h => by rw [hh3]; exact h) (g := (mkF m 27 #[.val (.ref a), .val (.ref b), .val (.int (Int32.ofNat o)), .val (.int (Int32.ofNat len)), .val .null, .unset] [])) rfl (hb hbytes d27)
  have hh5 := q5.trans hh3
  have c6 : Steps p.tables e below (s₁.setTop (entryFrame m #[.ref a, .ref b, .int (Int32.ofNat o), .int (Int32.ofNat len), .null] 6)) (T5.setTop (mkF m 30 #[.val (.ref a), .val (.ref b), .val (.int (Int32.ofNat o)), .val (.int (Int32.ofNat len)), .val .null, .unset] [.int z])) := c4.trans (st5 _ (Steps.refl _))
  have c7 : Steps p.tables e below (s₁.setTop (entryFrame m #[.ref a, .ref b, .int (Int32.ofNat o), .int (Int32.ofNat len), .null] 6)) (T5.setTop (mkF m 36 #[.val (.ref a), .val (.ref b), .val (.int (Int32.ofNat o)), .val (.int (Int32.ofNat len)), .val .null, .unset] [.int (Int32.ofNat len), .int (Int32.ofNat o), .ref b])) := c6.trans (by
    refine XS.ifNo X5.here hexec rfl (hb hbytes d30) rfl (i0_eq_f hz) ?_
    refine XS.aloadN X5.here hexec rfl (hb hbytes d33) rfl rfl ?_
    refine XS.iloadN X5.here hexec rfl (hb hbytes d34) rfl ?_
    refine XS.iloadN X5.here hexec rfl (hb hbytes d35) rfl ?_
    exact Steps.refl _)
  obtain ⟨v8, T8, X8, E8, g8⟩ := X5.callS hexec (Cmp3.law l b A o len) hown (wks W (staticW "java/lang/String" 177 Cmp3.yN)) (wk W Cmp3.tab) (W := 0) (Nat.le_of_ble_eq_true rfl) (Nat.le_of_ble_eq_true rfl) (Nat.le_refl _) (by show 0 + len ≤ len; omega) (g := (mkF m 36 #[.val (.ref a), .val (.ref b), .val (.int (Int32.ofNat o)), .val (.int (Int32.ofNat len)), .val .null, .unset] [.int (Int32.ofNat len), .int (Int32.ofNat o), .ref b])) rfl (by rw [hml]; rfl) c7 (argsL := [.ref b, .int (Int32.ofNat o), .int (Int32.ofNat len)]) (rest := []) rfl rfl (by show 2 * 0 + 0 ≤ _; decide) (hb hbytes d36) (⟨rfl, hA.mv X5.warmed.alike hh5, l1, l2, hp⟩)
  obtain ⟨e8, z8⟩ := E8
  obtain ⟨rfl, N, n1, n2, n3, n4, n5, n6⟩ := NewArr.mv _ T5 s _ _ hh5.symm (Vm.Alike.refl _) rfl e8
  rw [hh5] at z8
  have hB1 := hB.keep X8.warmed.alike (n6 _ _ hB.1)
  have hne : s.heap.size ≠ a := (Nat.ne_of_lt (Array.getElem?_eq_some_iff.mp hB.1).1).symm
  have c9 : Steps p.tables e below (s₁.setTop (entryFrame m #[.ref a, .ref b, .int (Int32.ofNat o), .int (Int32.ofNat len), .null] 6)) (T8.setTop (mkF m 39 #[.val (.ref a), .val (.ref b), .val (.int (Int32.ofNat o)), .val (.int (Int32.ofNat len)), .val .null, .unset] [.ref s.heap.size])) := g8
  have c10 : Steps p.tables e below (s₁.setTop (entryFrame m #[.ref a, .ref b, .int (Int32.ofNat o), .int (Int32.ofNat len), .null] 6)) (T8.setTop (mkF m 45 #[.val (.ref a), .val (.ref b), .val (.int (Int32.ofNat o)), .val (.int (Int32.ofNat len)), .val .null, .val (.ref s.heap.size)] [.int (Int32.ofNat N.slots.size), .ref s.heap.size, .ref a])) := by
    have hc : Steps p.tables e below (s₁.setTop (entryFrame m #[.ref a, .ref b, .int (Int32.ofNat o), .int (Int32.ofNat len), .null] 6)) (T8.setTop (mkF m 45 #[.val (.ref a), .val (.ref b), .val (.int (Int32.ofNat o)), .val (.int (Int32.ofNat len)), .val .null, .val (.ref s.heap.size)] [.int (Int32.ofNat len), .ref s.heap.size, .ref a])) := c9.trans (by
      refine XS.astore X8.here hexec rfl (hb hbytes d39) rfl rfl rfl ?_
      refine XS.aloadN X8.here hexec rfl (hb hbytes d41) rfl rfl ?_
      refine XS.aload X8.here hexec rfl (hb hbytes d42) rfl rfl ?_
      refine XS.iloadN X8.here hexec rfl (hb hbytes d44) rfl ?_
      exact Steps.refl _)
    rw [n4]; exact hc
  obtain ⟨v11, T11, X11, E11, g11⟩ := X8.callS hexec (CodL.law l s.heap.size N) hown (wks W (staticW "java/lang/String" 47 CodL.yN)) (wk W CodL.tab) (W := 1) (Nat.le_of_ble_eq_true rfl) (Nat.le_of_ble_eq_true rfl) (Nat.le_refl _) (by show 0 + len + 0 ≤ len; omega) (g := (mkF m 45 #[.val (.ref a), .val (.ref b), .val (.int (Int32.ofNat o)), .val (.int (Int32.ofNat len)), .val .null, .val (.ref s.heap.size)] [.int (Int32.ofNat N.slots.size), .ref s.heap.size, .ref a])) rfl (by rw [hml]; rfl) c10 (argsL := [.ref s.heap.size, .int (Int32.ofNat N.slots.size)]) (rest := [.ref a]) rfl rfl (by show 2 * 0 + (1 + 0) ≤ _; decide) (hb hbytes d45) (⟨rfl, n1⟩)
  obtain ⟨rfl, q11⟩ := E11
  have hB11 := hB1.mv (X8.warmed.alike.symm.trans X11.warmed.alike) q11
  have c12 : Steps p.tables e below (s₁.setTop (entryFrame m #[.ref a, .ref b, .int (Int32.ofNat o), .int (Int32.ofNat len), .null] 6)) (T11.setTop (mkF m 48 #[.val (.ref a), .val (.ref b), .val (.int (Int32.ofNat o)), .val (.int (Int32.ofNat len)), .val .null, .val (.ref s.heap.size)] [.int 0, .ref a])) := g11
  obtain ⟨T13, X13, p13, bl13, sl13, st13⟩ := X11.finit hexec hown (wk W (.fieldLink "java/lang/String" 15 "java/lang/String" "coder" "B")) (Or.inr ⟨_, (wk W (.laysFinal "java/lang/String" "java/lang/String" "coder" "B"))⟩) (Or.inl ⟨rfl, hnm⟩) f2 (Or.inl rfl) hB11 (t := .byte) (by decide +kernel) rfl (g := (mkF m 48 #[.val (.ref a), .val (.ref b), .val (.int (Int32.ofNat o)), .val (.int (Int32.ofNat len)), .val .null, .val (.ref s.heap.size)] [.int 0, .ref a])) rfl (rest := []) rfl (hb hbytes d48)
  have c14 : Steps p.tables e below (s₁.setTop (entryFrame m #[.ref a, .ref b, .int (Int32.ofNat o), .int (Int32.ofNat len), .null] 6)) (T13.setTop (mkF m 54 #[.val (.ref a), .val (.ref b), .val (.int (Int32.ofNat o)), .val (.int (Int32.ofNat len)), .val .null, .val (.ref s.heap.size)] [.ref s.heap.size, .ref a])) := (c12.trans (st13 _ (Steps.refl _))).trans (by
    refine XS.aloadN X13.here hexec rfl (hb hbytes d51) rfl rfl ?_
    refine XS.aload X13.here hexec rfl (hb hbytes d52) rfl rfl ?_
    exact Steps.refl _)
  obtain ⟨T15, X15, p15, bl15, sl15, st15⟩ := X13.finit hexec hown (wk W (.fieldLink "java/lang/String" 9 "java/lang/String" "value" "[B")) (Or.inr ⟨_, (wk W (.laysFinal "java/lang/String" "java/lang/String" "value" "[B"))⟩) (Or.inl ⟨rfl, hnm⟩) f1 (Or.inl rfl) bl13 (t := (.array .byte)) (by decide +kernel) rfl (g := (mkF m 54 #[.val (.ref a), .val (.ref b), .val (.int (Int32.ofNat o)), .val (.int (Int32.ofNat len)), .val .null, .val (.ref s.heap.size)] [.ref s.heap.size, .ref a])) rfl (rest := []) rfl (hb hbytes d54)
  have c16 : Steps p.tables e below (s₁.setTop (entryFrame m #[.ref a, .ref b, .int (Int32.ofNat o), .int (Int32.ofNat len), .null] 6)) (T15.setTop (mkF m 57 #[.val (.ref a), .val (.ref b), .val (.int (Int32.ofNat o)), .val (.int (Int32.ofNat len)), .val .null, .val (.ref s.heap.size)] [])) := c14.trans (st15 _ (Steps.refl _))
  have ap := apart (Or.inr ⟨_, (wk W (.laysFinal "java/lang/String" "java/lang/String" "value" "[B"))⟩) (Or.inr ⟨_, (wk W (.laysFinal "java/lang/String" "java/lang/String" "coder" "B"))⟩) f1 f2 (t₁ := .array .byte) (t₂ := .byte) (by decide +kernel) (by decide +kernel) (by decide)
  have al := X8.warmed.alike.symm.trans X15.warmed.alike
  have n7 : T11.heap[s.heap.size]? = some N := by rw [q11]; exact n1.1
  exact ⟨T15, none, _, _, _, X15, by simp, rfl, by omega, (fun _ => rfl), ⟨rfl, _, N, bl15, ((Same.refl D _).set _ (by simp)).set _ (by simp), sl15, (Cell.slots_setSlot_ne _ ap).trans sl13, n1.keep al (p15.other hne (p13.other hne n7)), n2, by rw [al.findClass]; exact n3, n4, n5, fun y c h1 h2 => p15.other h1 (p13.other h1 (by rw [q11]; exact n6 y c h2)), by rw [p15.2.2, p13.2.2, q11]; exact z8⟩, fun fs hl => c16.trans (X15.returnOut hexec hret (hb hbytes d57) hl)⟩
end New4
namespace New1
def yN : MethodName := ⟨"java/lang/String", "<init>", "([C)V"⟩
abbrev yB : ByteArray := jdk_42_method_3_code
theorem d0 : decode yB 0 = .ok (.aload_n 0, 1) := by decide +kernel
theorem d1 : decode yB 1 = .ok (.aload_n 1, 1) := by decide +kernel
theorem d2 : decode yB 2 = .ok (.iconst 0, 1) := by decide +kernel
theorem d3 : decode yB 3 = .ok (.aload_n 1, 1) := by decide +kernel
theorem d4 : decode yB 4 = .ok (.arraylength, 1) := by decide +kernel
theorem d5 : decode yB 5 = .ok (.aconst_null, 1) := by decide +kernel
theorem d6 : decode yB 6 = .ok (.invokespecial 27, 3) := by decide +kernel
theorem d9 : decode yB 9 = .ok (.return_, 1) := by decide +kernel
def site : List Cond := [New4.tab] ++ initW "java/lang/String" 27 New4.yN
def tab : Cond := tabOf yN yB 2 none site
def P (a : Addr) (D : Cell) (fV fC : Field) (b : Addr) (A : Cell) (z : Int32) (args : Array Value) (s : State) : Prop := args = #[.ref a, .ref b] ∧ Blank "java/lang/String" a D s ∧ Found "java/lang/String" "value" "[B" fV s ∧ Found "java/lang/String" "coder" "B" fC s ∧ Ch b A s ∧ StaticIs s "java/lang/String" "COMPACT_STRINGS" "Z" (.int z) ∧ ¬ z = 0 ∧ 0 < A.slots.size ∧ A.slots.size ≤ 536870912 ∧ ∀ i, i < A.slots.size → ¬ 255 < cv A i
def E (a : Addr) (D : Cell) (fV fC : Field) (A : Cell) (r : Option Value) (s u : State) : Prop := Got a D fV fC A 0 A.slots.size r s u
/-- new String(chars), not empty, no char above 255: a Latin-1 String of their low bytes -/
theorem law (l : Launch) (a : Addr) (D : Cell) (fV fC : Field) (b : Addr) (A : Cell) (z : Int32) : Law l yN 2 1 3 52 yB 2 none site (P a D fV fC b A z) (E a D fV fC A) [⟨a, fC.slot⟩, ⟨a, fV.slot⟩] 1 A.slots.size := by
  refine Law.of_walk (plainFor_of_name (by decide +kernel)) (by decide +kernel) (by decide +kernel) (by decide) (fun _ _ h => by rw [h.1]; rfl) (fun _ U U' hal hh h => ⟨h.1, h.2.1.mv hal hh, h.2.2.1.al hal, h.2.2.2.1.al hal, h.2.2.2.2.1.mv hal hh, h.2.2.2.2.2.1.there hal hh, h.2.2.2.2.2.2⟩) (fun r U U' V V' h1 hal h2 h => Got.mv r U U' V V' h1 hal h2 h) ?_
  intro p e s m args below meth c s₁ X0 hexec hbytes hml hret hlk hnm hown hh0 W hP
  obtain ⟨rfl, hB, f1, f2, hA, s1, hz, l0, l2, hp⟩ := hP
  have c1 : Steps p.tables e below (s₁.setTop (entryFrame m #[.ref a, .ref b] 2)) (s₁.setTop (mkF m 0 #[.val (.ref a), .val (.ref b)] [])) := entry rfl
  have c2 : Steps p.tables e below (s₁.setTop (entryFrame m #[.ref a, .ref b] 2)) (s₁.setTop (mkF m 6 #[.val (.ref a), .val (.ref b)] [.null, .int (Int32.ofNat A.slots.size), .int 0, .ref b, .ref a])) := c1.trans (by
    refine XS.aloadN X0.here hexec rfl (hb hbytes d0) rfl rfl ?_
    refine XS.aloadN X0.here hexec rfl (hb hbytes d1) rfl rfl ?_
    refine iconstV X0.here hexec rfl 0 (hb hbytes d2) (by decide) ?_
    refine XS.aloadN X0.here hexec rfl (hb hbytes d3) rfl rfl ?_
    refine X0.alen hexec (hA.1.mv X0.warmed.alike hh0) rfl rfl (hb hbytes d4) ?_
    refine XS.aconstNull X0.here hexec rfl (hb hbytes d5) ?_
    exact Steps.refl _)
  obtain ⟨v3, T3, X3, E3, g3⟩ := X0.callN hexec (New4.law l a D fV fC b A z 0 A.slots.size) rfl hown (wks W (initW "java/lang/String" 27 New4.yN)) (W New4.tab (by simp only [site, List.mem_cons, List.mem_append, true_or, or_true])) (W := 0) (Nat.le_of_ble_eq_true rfl) (Nat.le_of_ble_eq_true rfl) (Nat.le_refl _) (by show 0 + A.slots.size ≤ A.slots.size; omega) (g := (mkF m 6 #[.val (.ref a), .val (.ref b)] [.null, .int (Int32.ofNat A.slots.size), .int (Int32.ofNat 0), .ref b, .ref a])) rfl (by rw [hml]; rfl) c2 (argsL := [.ref b, .int (Int32.ofNat 0), .int (Int32.ofNat A.slots.size), .null]) (rest := []) rfl rfl (by show 2 * 0 + 0 ≤ _; decide) (hb hbytes d6) (⟨rfl, hB.mv X0.warmed.alike hh0, f1.al X0.warmed.alike, f2.al X0.warmed.alike, hA.mv X0.warmed.alike hh0, s1.there X0.warmed.alike hh0, hz, l0, by omega, l2, fun i hi => by rw [Nat.zero_add]; exact hp i hi⟩)
  have e0 := Got.mv _ s₁ s _ _ hh0.symm (Vm.Alike.refl _) rfl E3
  obtain rfl := e0.1
  have c4 : Steps p.tables e below (s₁.setTop (entryFrame m #[.ref a, .ref b] 2)) (T3.setTop (mkF m 9 #[.val (.ref a), .val (.ref b)] [])) := g3
  exact ⟨T3, none, _, _, _, X3, by simp, rfl, by omega, (fun _ => rfl), e0, fun fs hl => c4.trans (X3.returnOut hexec hret (hb hbytes d9) hl)⟩
theorem pays {l : Launch} {R : Room} {p : Program} {e : Env} {below : List Frame} {s : State} {sargs : Array Value} {len W : Nat} (a : Addr) (D : Cell) (fV fC : Field) (b : Addr) (A : Cell) (z : Int32) (htab : tab.before sargs s = true) (hfr : 4 ≤ R.frames) (hlo : W + 65 ≤ R.locals) :
    Back l R p e below s sargs yN len W (fun A₁ a₁ => A₁.cells + 1 ≤ R.cells ∧ A₁.slots + A.slots.size ≤ R.slots ∧ P a D fV fC b A z a₁ A₁.U) (fun A₁ _ v₁ B₁ => E a D fV fC A v₁ A₁.U B₁.U ∧ B₁.locs = A₁.locs ++ [⟨a, fC.slot⟩, ⟨a, fV.slot⟩] ∧ B₁.cells = A₁.cells + 1 ∧ B₁.slots = A₁.slots + A.slots.size) :=
  (law l a D fV fC b A z).pays htab hfr (by omega)
end New1
end StrChars
namespace StrChars.Road
open Jvm Sem ClassFile Op Lib Jvm.Stand Jvm.Free Jvm.Free.XT
open Jvm.Lib.Cold (StaticIs)
abbrev ST : String := "java/lang/String"
/-- every table word that New1's law asks, flat -/
abbrev words : List Jvm.Cond := [.code New1.yN New1.yB 2 none, .initialized ST, .methodLink ST 27 New4.yN, .instanceMethod New4.yN,
  .code New4.yN New4.yB 6 none, .fieldLink ST 38 ST "COMPACT_STRINGS" "Z", .laysFinal ST ST "value" "[B", .fieldLink ST 9 ST "value" "[B", .laysFinal ST ST "coder" "B", .fieldLink ST 15 ST "coder" "B",
  .methodLink ST 1 Lib.objectInit, .instanceMethod Lib.objectInit, .code Lib.objectInit ⟨#[0xb1]⟩ 1 none, .methodLink ST 177 Cmp3.yN, .static Cmp3.yN, .methodLink ST 47 CodL.yN, .static CodL.yN,
  .code Cmp3.yN Cmp3.yB 6 (some (.array .byte)), .initialized U16, .arrayClass .byte, .methodLink U16 115 Cmp5.yN, .static Cmp5.yN, .code Cmp5.yN Cmp5.yB 7 (some .int), .code CodL.yN CodL.yB 2 (some .byte)]
theorem tab_of {a : Array Value} {s : State} (h : ∀ w ∈ words, w.before a s = true) : New1.tab.before a s = true := by
  have h5 : Cmp5.tab.before a s = true := unparts (wk h (.code Cmp5.yN Cmp5.yB 7 (some .int))) (wks h (.initialized Cmp5.yN.cls :: Cmp5.site))
  have hc : CodL.tab.before a s = true := unparts (wk h (.code CodL.yN CodL.yB 2 (some .byte))) (wks h (.initialized CodL.yN.cls :: CodL.site))
  have q5 : ∀ w ∈ Cmp5.tab :: words, w.before a s = true := fun w hw => (List.mem_cons.mp hw).elim (fun e => e ▸ h5) (h w)
  have h3 : Cmp3.tab.before a s = true := unparts (wk q5 (.code Cmp3.yN Cmp3.yB 6 (some (.array .byte)))) (wks q5 (.initialized Cmp3.yN.cls :: Cmp3.site))
  have q3 : ∀ w ∈ Cmp3.tab :: CodL.tab :: words, w.before a s = true := fun w hw => (List.mem_cons.mp hw).elim (fun e => e ▸ h3) fun hw => (List.mem_cons.mp hw).elim (fun e => e ▸ hc) (h w)
  have h4 : New4.tab.before a s = true := unparts (wk q3 (.code New4.yN New4.yB 6 none)) (wks q3 (.initialized New4.yN.cls :: New4.site))
  have q4 : ∀ w ∈ New4.tab :: words, w.before a s = true := fun w hw => (List.mem_cons.mp hw).elim (fun e => e ▸ h4) (h w)
  exact unparts (wk q4 (.code New1.yN New1.yB 2 none)) (wks q4 (.initialized New1.yN.cls :: New1.site))
/-- the words ride from the start Z to the walk's own state -/
theorem moved {Z s : State} {a0 args : Array Value} (hZ : Z.Warmed39 s.vm) (hw : ∀ d ∈ words, d.before a0 Z = true) : ∀ d ∈ words, d.before args s = true := fun d hd => by
  have q := hw d hd
  have t : ∀ d ∈ words, d = .arrayClass .byte ∨ (d.onTables && d.keepsFace) = true := by decide +kernel
  rcases t d hd with rfl | t
  · exact RoadKit.mvA hZ q
  · exact RoadKit.mv hZ q t
/-- WHAT COMES BACK, over the tables of the start Z: h the heap at the call, h' behind it -/
def Q (Z : State) (x : Addr) (A : Cell) (h : Heap) (v : Option Value) (h' : Heap) (L : List Loc) : Prop := v = none ∧ (∀ y ∈ L, y.base = x) ∧ RoadKit.Keep h h' [x] ∧ h'.size = h.size + 1 ∧ RoadKit.Exa Z h' x ST ∧ RoadKit.Fld Z h' x ST "value" "[B" (.ref h.size) ∧ RoadKit.Fld Z h' x ST "coder" "B" (.int 0) ∧
  (∃ V : Cell, RoadKit.Arr Z h' h.size V .byte ∧ V.vm = .none ∧ Z.vm.findClass "[B" = some V.cls ∧ V.slots.size = A.slots.size ∧ ∀ j, j < A.slots.size → V.slots[j]? = some (.int (lo8 (cv A j)))) ∧
  ∀ (O n d : String) (w : Value), RoadKit.Fld Z h x O n d w → RoadKit.slotOf Z O n d ≠ RoadKit.slotOf Z ST "value" "[B" → RoadKit.slotOf Z O n d ≠ RoadKit.slotOf Z ST "coder" "B" → RoadKit.Fld Z h' x O n d w
/-- **new String(chars) AT A CALL, IN THE ROAD'S FORM**: for specialBack behind newO: x the fresh String, b the char[] with the cell A -/
theorem back {p : Program} {l : Launch} {e : Env} {R : Room} {s : State} {args : Array Value} {below : List Frame} {len W : Nat} {Z : State} {a0 : Array Value} {h : Heap} (hZ : Z.Warmed39 s.vm) (hw : ∀ d ∈ words, d.before a0 Z = true) {kI : Nat} (wi : (Jvm.Cond.instantiable ST kI).before a0 Z = true)
    {x b : Addr} {A : Cell} {z : Int32} {v0 c0 : Value} (E : RoadKit.Exa Z h x ST) (V : RoadKit.Fld Z h x ST "value" "[B" v0) (C : RoadKit.Fld Z h x ST "coder" "B" c0) (K : RoadKit.Arr Z h b A .char) (hty : Typed .char A) (S : RoadKit.Sta Z h ST "COMPACT_STRINGS" "Z" (.int z)) (hz : ¬ z = 0)
    (l0 : 0 < A.slots.size) (l2 : A.slots.size ≤ 536870912) (hp : ∀ i, i < A.slots.size → ¬ 255 < cv A i) (hfr : 4 ≤ R.frames) (hlo : W + 65 ≤ R.locals) :
    Back l R p e below s args New1.yN len W (fun P a => a = #[.ref x, .ref b] ∧ P.U.heap = h ∧ P.cells + 1 ≤ R.cells ∧ P.slots + A.slots.size ≤ R.slots)
      (fun P _ v B => ∃ L, Q Z x A h v B.U.heap L ∧ B.locs = P.locs ++ L ∧ B.cells = P.cells + 1 ∧ B.slots = P.slots + A.slots.size) := by
  intro m meth c P g ig mk a X hg hsize hdg hW hn hp'
  obtain ⟨rfl, rfl, r1, r2⟩ := hp'
  have al : Z.vm.Alike P.U.vm := hZ.alike.trans X.warmed.alike
  obtain ⟨D, cfV, kV, iV, fV, hD, gV, stV, knV, obV, asV, slV⟩ := id V
  obtain ⟨D', cfC, kC, iC, fC, hD', gC, stC, -, -, asC, slC⟩ := id C
  cases hD.symm.trans hD'
  obtain ⟨D2, kD, e1, e2, e3, e4, e5⟩ := id E
  cases hD.symm.trans e1
  obtain ⟨c2, k2, i1, i2, i3, -⟩ := Cond.instantiable_spec wi
  cases e2.symm.trans i1
  cases e3.symm.trans i2
  obtain ⟨kU, u1, u2⟩ := al.2.2 _ _ e3
  have hB : Blank ST x D P.U := ⟨hD, ⟨knV, fun q hq => by rw [hq] at obV; cases obV⟩, by rw [al.findClass]; exact e2, kU, u1, by rw [u2]; exact i3, by rw [u2]; exact e5 i3⟩
  have F1 : Found ST "value" "[B" fV P.U := ⟨SBG.found_only al ⟨cfV, kV, iV, gV⟩, stV⟩
  have F2 : Found ST "coder" "B" fC P.U := ⟨SBG.found_only al ⟨cfC, kC, iC, gC⟩, stC⟩
  have hA : Ch b A P.U := ⟨⟨K.1, State.isArrayOf_alike al K.2.1, K.2.2, by omega⟩, hty⟩
  have hS : StaticIs P.U ST "COMPACT_STRINGS" "Z" (.int z) := by
    obtain ⟨cfS, iS, kS, fS, st, cS, t1, t2, t3, t4, t5, t6, t7⟩ := S
    exact StaticIs.there (s := { Z with heap := P.U.heap }) ⟨cfS, iS, kS, fS, st, cS, t1, t2, t3, t4, t5, (fun q => by rw [q] at t6; cases t6), t7⟩ al rfl
  obtain ⟨v, B, X', ⟨⟨hv, E', V', q1, q2, q3, q4, q5, q6, q7, q8, q9, q10, q11⟩, hl, hc, hs⟩, st⟩ := New1.pays x D fV fC b A z (tab_of (moved hZ hw)) hfr hlo m meth c P g ig mk _ X hg hsize hdg hW hn ⟨r1, r2, rfl, hB, F1, F2, hA, hS, hz, l0, l2, hp⟩
  have al' : Z.vm.Alike B.U.vm := hZ.alike.trans X'.warmed.alike
  have hsz : E'.slots.size = D.slots.size := by
    obtain ⟨-, -, -, kB, w1, w2, w3⟩ := q1
    obtain ⟨kB', y1, y2⟩ := al'.2.2 _ _ e3
    rw [q2.2.1] at w1
    cases w1.symm.trans y1
    rw [w3, e5 i3, y2]
  refine ⟨v, B, X', ⟨_, ⟨hv, ?_, ⟨by omega, fun y cy hy hn' => q10 y cy (by simpa using hn') hy, fun y cy hy => ?_⟩, q11, ⟨E', _, q1.1, by rw [q2.2.1]; exact e2, by rw [q2.2.1]; exact e3, by rw [q2.1]; exact obV, fun _ => by rw [hsz]; exact e5 i3⟩,
    ⟨E', cfV, kV, iV, fV, q1.1, gV, stV, by rw [q2.1]; exact knV, by rw [q2.1]; exact obV, by rw [q2.2.1]; exact asV, q3⟩, ⟨E', cfC, kC, iC, fC, q1.1, gC, stC, by rw [q2.1]; exact knV, by rw [q2.1]; exact obV, by rw [q2.2.1]; exact asC, q4⟩,
    ⟨V', ⟨q5.1, State.isArrayOf_alike al'.symm q5.2.1, q5.2.2.1⟩, q6, by rw [← al'.findClass]; exact q7, q8, fun j hj => by have := q9 j hj; rwa [Nat.zero_add] at this⟩, fun O n d w F n1 n2 => ?_⟩, hl, hc, hs⟩, st⟩
  · intro y hy
    simp only [List.mem_cons, List.not_mem_nil, or_false] at hy
    rcases hy with rfl | rfl <;> rfl
  · by_cases q : y = x
    · subst q
      cases hD.symm.trans hy
      exact ⟨E', q1.1, q2.2.1, q2.1, hsz⟩
    · exact ⟨cy, q10 y cy q hy, rfl, rfl, rfl⟩
  · obtain ⟨D3, cf, k, i, f, g1, g2, g3, g4, g5, g6, g7⟩ := F
    cases hD.symm.trans g1
    simp only [RoadKit.slotOf, g2, gV, gC, Option.map_some, Option.getD_some] at n1 n2
    exact ⟨E', cf, k, i, f, q1.1, g2, g3, by rw [q2.1]; exact g4, by rw [q2.1]; exact g5, by rw [q2.2.1]; exact g6, by rw [q2.2.2 f.slot (by simp [n1, n2])]; exact g7⟩
end StrChars.Road
namespace StrChars.Road
open Jvm Sem ClassFile Op Lib Jvm.Stand Jvm.Free Jvm.Free.XT
/-- WHAT COMES BACK, the byte[] as a list of values -/
def QA (Z : State) (x : Addr) (zn : Int32) (cs : List Int32) (h : Heap) (v : Option Value) (h' : Heap) (L : List Loc) : Prop := v = none ∧ (∀ y ∈ L, y.base = x) ∧ RoadKit.Keep h h' [x] ∧ h'.size = h.size + 1 ∧ RoadKit.Exa Z h' x ST ∧ RoadKit.Fld Z h' x ST "value" "[B" (.ref h.size) ∧ RoadKit.Fld Z h' x ST "coder" "B" (.int 0) ∧
  (∃ kb, Z.vm.findClass "[B" = some kb ∧ RoadKit.Arv Z h' h.size kb .byte zn (cs.map fun c => .int (lo8 c)) (.int 0)) ∧
  ∀ (O n d : String) (w : Value), RoadKit.Fld Z h x O n d w → RoadKit.slotOf Z O n d ≠ RoadKit.slotOf Z ST "value" "[B" → RoadKit.slotOf Z O n d ≠ RoadKit.slotOf Z ST "coder" "B" → RoadKit.Fld Z h' x O n d w
/-- **new String(chars) AT A CALL, THE ARRAYS AS LISTS**: the char[] at b holds cs, not empty, no char above 255 -/
theorem backArv {p : Program} {l : Launch} {e : Env} {R : Room} {s : State} {args : Array Value} {below : List Frame} {len W : Nat} {Z : State} {a0 : Array Value} {h : Heap} (hZ : Z.Warmed39 s.vm) (hw : ∀ d ∈ words, d.before a0 Z = true) {kI : Nat} (wi : (Jvm.Cond.instantiable ST kI).before a0 Z = true)
    {x b : Addr} {k : ClassId} {zn z : Int32} {cs : List Int32} {dv v0 c0 : Value} (E : RoadKit.Exa Z h x ST) (V : RoadKit.Fld Z h x ST "value" "[B" v0) (C : RoadKit.Fld Z h x ST "coder" "B" c0) (K : RoadKit.Arv Z h b k .char zn (cs.map Value.int) dv) (S : RoadKit.Sta Z h ST "COMPACT_STRINGS" "Z" (.int z)) (hz : ¬ z = 0)
    (hlen : zn.toNatClampNeg = cs.length) (h0 : 0 < cs.length) (hbig : cs.length ≤ 536870912) (hall : ∀ c ∈ cs, ¬ 255 < c) (hfr : 4 ≤ R.frames) (hlo : W + 65 ≤ R.locals) :
    Back l R p e below s args New1.yN len W (fun P a => a = #[.ref x, .ref b] ∧ P.U.heap = h ∧ P.cells + 1 ≤ R.cells ∧ P.slots + cs.length ≤ R.slots)
      (fun P _ v B => ∃ L, QA Z x zn cs h v B.U.heap L ∧ B.locs = P.locs ++ L ∧ B.cells = P.cells + 1 ∧ B.slots = P.slots + cs.length) := by
  obtain ⟨A, K1, K2, K3, K4, K5, K6⟩ := K
  have e : A.slots.size = cs.length := K3.trans hlen
  have hat : ∀ (i : Nat) (hi : i < cs.length), A.slots[i]? = some (.int cs[i]) := fun i hi => by rw [K5 i (by omega)]; simp [List.getD_eq_getElem?_getD, hi]
  have hcv : ∀ (i : Nat) (hi : i < cs.length), cv A i = cs[i] := fun i hi => by unfold cv; rw [hat i hi]
  have hty : Typed .char A := fun i v hv => by
    have hi : i < A.slots.size := (Array.getElem?_eq_some_iff.mp hv).1
    have q := K5 i hi
    rw [hv] at q
    rw [Option.some.inj q]
    exact K6 i hi
  refine Back.mono (back hZ hw wi E V C K1 hty S hz (by omega) (by omega) (fun i hi => by rw [hcv i (by omega)]; exact hall _ (List.getElem_mem _)) hfr hlo) (fun P a hp => ⟨hp.1, hp.2.1, hp.2.2.1, by rw [e]; exact hp.2.2.2⟩) (fun P a v B hp hq => ?_)
  obtain ⟨L, ⟨q1, q2, q3, q4, q5, q6, q7, ⟨V', v1, v2, v3, v4, v5⟩, q9⟩, hl, hc, hs⟩ := hq
  refine ⟨L, ⟨q1, q2, q3, q4, q5, q6, q7, ⟨V'.cls, v3, V', v1, rfl, by rw [v4, e, hlen], K4, fun i hi => ?_, fun i hi => ?_⟩, q9⟩, hl, hc, by rw [hs, e]⟩
  · have hi' : i < cs.length := by omega
    rw [v5 i (by omega), hcv i hi']; simp [List.getD_eq_getElem?_getD, hi']
  · have hi' : i < cs.length := by omega
    simp only [List.getD_eq_getElem?_getD, List.getElem?_map, List.getElem?_eq_getElem hi', Option.map_some, Option.getD_some]
    exact fits_lo8 _
end StrChars.Road
namespace StrChars.Road
open Jvm Sem ClassFile Op Lib Jvm.Stand Jvm.Free Jvm.Free.XT
/-- WHAT COMES BACK, in the writer's own shape -/
def QV (Z : State) (x : Addr) (N : Int32) (bs : List Int32) (h : Heap) (n0 : Nat) (v : Option Value) (h' : Heap) (L : List Loc) : Prop := v = none ∧ RoadKit.Fr n0 L ∧ RoadKit.Keep h h' [x] ∧ RoadKit.Exa Z h' x ST ∧ RoadKit.Fld Z h' x ST "coder" "B" (.int 0) ∧
  ∃ (t : Addr) (kb : ClassId), n0 ≤ t ∧ h.size ≤ t ∧ ¬ t = x ∧ RoadKit.Fld Z h' x ST "value" "[B" (.ref t) ∧ RoadKit.Arv Z h' t kb .byte N (bs.map Value.int) (.int 0)
/-- **new String(chars) AT A CALL, FOR THE WRITER**: a char[] of n known ints, each 0 to 255 -/
theorem backV {p : Program} {l : Launch} {e : Env} {R : Room} {s : State} {args : Array Value} {below : List Frame} {len W : Nat} {Z : State} {a0 : Array Value} {h : Heap} (hZ : Z.Warmed39 s.vm) (hw : ∀ d ∈ words, d.before a0 Z = true) {kI : Nat} (wi : (Jvm.Cond.instantiable ST kI).before a0 Z = true)
    {x b : Addr} {kC : ClassId} {cs bs : List Int32} {d v0 c0 : Value} {z N : Int32} {n n0 : Nat} (hx0 : n0 ≤ x) (hh0 : n0 ≤ h.size) (E : RoadKit.Exa Z h x ST) (V : RoadKit.Fld Z h x ST "value" "[B" v0) (C : RoadKit.Fld Z h x ST "coder" "B" c0) (K : RoadKit.Arv Z h b kC .char N (cs.map Value.int) d) (S : RoadKit.Sta Z h ST "COMPACT_STRINGS" "Z" (.int z)) (hz : ¬ z = 0)
    (hn : cs.length = n) (hN : N = Int32.ofNat n) (l0 : 0 < n) (l2 : n ≤ 4000) (hp : ∀ c ∈ cs, ¬ c < 0 ∧ ¬ (255 : Int32) < c) (hb : bs = cs.map (fun c => c.toInt8.toInt32)) (hfr : 4 ≤ R.frames) (hlo : W + 65 ≤ R.locals) :
    Back l R p e below s args (⟨"java/lang/String", "<init>", "([C)V"⟩ : MethodName) len W (fun P a => a = #[.ref x, .ref b] ∧ P.U.heap = h ∧ P.cells + 1 ≤ R.cells ∧ P.slots + n ≤ R.slots)
      (fun P _ v B => ∃ L, QV Z x N bs h n0 v B.U.heap L ∧ B.locs = P.locs ++ L ∧ B.cells = P.cells + 1 ∧ B.slots = P.slots + n) := by
  subst hn hN hb
  refine Back.mono (backArv hZ hw wi E V C K S hz (n32 (by omega)) l0 (by omega) (fun c hc => (hp c hc).2) hfr hlo) (fun P a hp => hp) (fun P a v B hp hq => ?_)
  obtain ⟨L, ⟨q1, q2, q3, q4, q5, q6, q7, ⟨kb, v1, v2⟩, q9⟩, hl, hc, hs⟩ := hq
  exact ⟨L, ⟨q1, fun y hy => by rw [q2 y hy]; exact hx0, q3, q5, q7, h.size, kb, hh0, Nat.le_refl _, Nat.ne_of_gt E.lt, q6, by rw [List.map_map]; exact v2⟩, hl, hc, hs⟩
end StrChars.Road
end Jvm.Pilot.@@N@@
namespace Jvm.RoadKit
open Sem ClassFile Op Lib Jvm.Stand Jvm.Free Jvm.LawKit
section OwnNew
variable {p : Program} {l : Launch} {e : Env} {R : Room} {s : State} {m : MethodId} {args : Array Value} {below : List Frame} {meth : Method} {c : Code} {T : State} {locs : List Loc} {cells slots : Nat} {h : Heap}
/-- from S the run comes to an end of which Q holds -/
def OwnGo (p : Program) (e : Env) (below : List Frame) (S : State) (Q : Outcome → State → Prop) : Prop :=
  ∃ s₂ o, Steps p.tables e below S s₂ ∧ s₂.status = .running ∧ Ended s₂ below o ∧ Q o s₂
theorem own_go {S : State} {Q : Outcome → State → Prop} (k : OwnGo p e below S Q) : ∃ s₂ o, Steps p.tables e below S s₂ ∧ s₂.status = .running ∧ Ended s₂ below o ∧ Q o s₂ := k
theorem own_back {S S' : State} {Q : Outcome → State → Prop} (h : ∀ t, Steps p.tables e below S' t → Steps p.tables e below S t) (k : OwnGo p e below S' Q) : OwnGo p e below S Q := by
  obtain ⟨s2, o, h1, h2⟩ := k
  exact ⟨s2, o, h _ h1, h2⟩
theorem own_seq {S S' : State} {Q : Outcome → State → Prop} (h : Steps p.tables e below S S') (k : OwnGo p e below S' Q) : OwnGo p e below S Q := own_back (fun _ ht => h.trans ht) k
abbrev OwnEnd (s : State) (Qf : Option Value → Heap → List Loc → Prop) (C S : Nat) : Outcome → State → Prop := fun o U' => ∃ v L, o = .returned v ∧ Qf v U'.heap L ∧ FrameEnd s o U' L C S
theorem own_end (X : Stand p l e R s m args below meth c T locs cells slots) (hlocks : meth.locks = false) {v : Option Value} (hv : meth.sig.returnType = none → v = none) {S : State} {Qf : Option Value → Heap → List Loc → Prop} {C Sl : Nat} (eT : T.heap = h) (hc : cells ≤ C) (hs : slots ≤ Sl) (hq : Qf v h locs)
    (step : ∀ fs : List Frame, (∀ (f : JFrame) (acts : List Action), f.method = m → f.locked = none → f.entered = [] → (doReturn e (T.setTop f) acts v).1 = T.setFrames fs) → Steps p.tables e below S (T.setFrames fs)) : OwnGo p e below S (OwnEnd s Qf C Sl) := by
  obtain ⟨fs, hr, hrun, hended, hW, hsame⟩ := X.leave (v := v) hv hlocks
  refine ⟨_, _, step fs hr, hrun, hended, v, locs, rfl, ?_, ⟨_, rfl⟩, hW, hsame.mono hc hs⟩
  show Qf v T.heap locs
  rw [eT]; exact hq
theorem own_hat {T : State} {h : Heap} {a : Addr} {c : Cell} (e : T.heap = h) (q : h[a]? = some c) : T.heap[a]? = some c := by rw [e]; exact q
theorem own_hle {T : State} {h : Heap} {k : Nat} (e : T.heap = h) (q : k ≤ h.size) : k ≤ T.heap.size := by rw [e]; exact q
theorem own_backN {Z : State} {a0 : Array Value} {y : MethodName} {bytes : ByteArray} {maxL : Nat} {ret : Option FieldType} {rm : Room} {len W : Nat} {as' : Array Value} {Q : Option Value → Heap → List Loc → Prop}
    (hM : MetFree l y (head1 [Cond.code y bytes maxL ret] rm) (fun a U => a = as' ∧ Z.Warmed39 U.vm ∧ U.heap = h) (fun _ _ _ _ _ => True) (fun _ U o U' => OwnEnd U Q rm.cells rm.slots o U'))
    (hZ : Z.Warmed39 s.vm) (wc : (Cond.code y bytes maxL ret).before a0 Z = true) (wz : (Cond.initialized y.cls).before a0 Z = true) (hf : rm.frames + 1 ≤ R.frames) (hl : W + (maxL + 11) + rm.locals ≤ R.locals) :
    Back l R p e below s args y len W (fun A a => a = as' ∧ A.U.heap = h ∧ A.cells + rm.cells ≤ R.cells ∧ A.slots + rm.slots ≤ R.slots)
      (fun A _ v B => ∃ L, Q v B.U.heap L ∧ B.locs = A.locs ++ L ∧ B.cells = A.cells + rm.cells ∧ B.slots = A.slots + rm.slots) := backOf (Q := Q) hM hZ wc wz hf hl
theorem own_retN (X : Stand p l e R s m args below meth c T locs cells slots) (hx : p.tables.exec = Jvm.exec) (hlocks : meth.locks = false) {pc : Nat} {Ls : Array Slot} {z : Int32} {t : FieldType} {rest : List Value} (hret : meth.sig.returnType = some t) (ht : t = .boolean ∨ t = .byte ∨ t = .char ∨ t = .short) (hn : nar t z = z)
    (hd : decode c.code pc = .ok (.ireturn, 1)) {Qf : Option Value → Heap → List Loc → Prop} {C Sl : Nat} (eT : T.heap = h) (hc : cells ≤ C) (hs : slots ≤ Sl) (hq : Qf (some (.int z)) h locs) : OwnGo p e below (T.setTop (mkF m pc Ls (.int z :: rest))) (OwnEnd s Qf C Sl) :=
  own_end X hlocks (fun h => by rw [hret] at h; cases h) eT hc hs hq fun fs hr => retN X hx hret ht hd (by rw [hn]; exact hr)
theorem own_retI (X : Stand p l e R s m args below meth c T locs cells slots) (hx : p.tables.exec = Jvm.exec) (hlocks : meth.locks = false) {pc : Nat} {Ls : Array Slot} {z : Int32} {rest : List Value} (hret : meth.sig.returnType = some .int)
    (hd : decode c.code pc = .ok (.ireturn, 1)) {Qf : Option Value → Heap → List Loc → Prop} {C Sl : Nat} (eT : T.heap = h) (hc : cells ≤ C) (hs : slots ≤ Sl) (hq : Qf (some (.int z)) h locs) : OwnGo p e below (T.setTop (mkF m pc Ls (.int z :: rest))) (OwnEnd s Qf C Sl) :=
  own_end X hlocks (fun h => by rw [hret] at h; cases h) eT hc hs hq fun fs hr => retOut X hx hret rfl (Or.inl ⟨rfl, Or.inl rfl, z, rfl⟩) hd hr
theorem own_retJ (X : Stand p l e R s m args below meth c T locs cells slots) (hx : p.tables.exec = Jvm.exec) (hlocks : meth.locks = false) {pc : Nat} {Ls : Array Slot} {z : Int64} {rest : List Value} (hret : meth.sig.returnType = some .long)
    (hd : decode c.code pc = .ok (.lreturn, 1)) {Qf : Option Value → Heap → List Loc → Prop} {C Sl : Nat} (eT : T.heap = h) (hc : cells ≤ C) (hs : slots ≤ Sl) (hq : Qf (some (.long z)) h locs) : OwnGo p e below (T.setTop (mkF m pc Ls (.long z :: rest))) (OwnEnd s Qf C Sl) :=
  own_end X hlocks (fun h => by rw [hret] at h; cases h) eT hc hs hq fun fs hr => retOut X hx hret rfl (Or.inr (Or.inl ⟨rfl, rfl, z, rfl⟩)) hd hr
theorem own_narA {t : FieldType} {w : Value} (h : w.isRef = true) : narrow t w = w := by
  rcases ref_cases h with rfl | ⟨a, rfl⟩ <;> cases t <;> rfl
theorem own_retA (X : Stand p l e R s m args below meth c T locs cells slots) (hx : p.tables.exec = Jvm.exec) (hlocks : meth.locks = false) {pc : Nat} {Ls : Array Slot} {w : Value} {t : FieldType} {rest : List Value} (hret : meth.sig.returnType = some t) (ht : t.isReference = true) (hw : w.isRef = true)
    (hd : decode c.code pc = .ok (.areturn, 1)) {Qf : Option Value → Heap → List Loc → Prop} {C Sl : Nat} (eT : T.heap = h) (hc : cells ≤ C) (hs : slots ≤ Sl) (hq : Qf (some w) h locs) : OwnGo p e below (T.setTop (mkF m pc Ls (w :: rest))) (OwnEnd s Qf C Sl) :=
  own_end X hlocks (fun h => by rw [hret] at h; cases h) eT hc hs hq fun fs hr => retOut X hx hret (own_narA hw) (Or.inr (Or.inr (Or.inr (Or.inr ⟨rfl, ht, hw⟩)))) hd hr
theorem own_retV (X : Stand p l e R s m args below meth c T locs cells slots) (hx : p.tables.exec = Jvm.exec) (hlocks : meth.locks = false) {pc : Nat} {Ls : Array Slot} (hret : meth.sig.returnType = none)
    (hd : decode c.code pc = .ok (.return_, 1)) {Qf : Option Value → Heap → List Loc → Prop} {C Sl : Nat} (eT : T.heap = h) (hc : cells ≤ C) (hs : slots ≤ Sl) (hq : Qf none h locs) : OwnGo p e below (T.setTop (mkF m pc Ls [])) (OwnEnd s Qf C Sl) :=
  own_end X hlocks (fun _ => rfl) eT hc hs hq fun fs hr => X.returnOut hx hret hd hr
end OwnNew
section OwnTerms
variable {args : Array Value} {first s : State} {o : Option Outcome} {idx : List Nat} {t u : Term}
theorem own_eqint {k : Int32} (h : (Cond.eq t (.int k)).value args first o s idx = some true) : t.eval args first o idx s = some (.int k) := by
  cases ha : t.eval args first o idx s with
  | none => simp [Cond.value, ha] at h
  | some x =>
    have hb : (Term.int k).eval args first o idx s = some (.int k) := Term.int_eval k
    cases x <;> simp [Cond.value, ha, hb, Value.isRef] at h ⊢
    exact h
theorem own_eqref {w : Addr} (hu : u.eval args first o idx s = some (.ref w)) (h : (Cond.eq t u).value args first o s idx = some true) : t.eval args first o idx s = some (.ref w) := by
  cases ha : t.eval args first o idx s with
  | none => simp [Cond.value, ha] at h
  | some x =>
    cases x <;> simp [Cond.value, ha, hu, Value.isRef] at h ⊢
    exact h
end OwnTerms
section OwnArr
variable {s : State} {args : Array Value} {t u : Term} {a : Addr} {c : Cell} {ty : FieldType}
theorem own_nat32 {n : Nat} (h : n < 2 ^ 31) : n.toInt32.toNatClampNeg = n := by
  have e : n.toInt32.toInt = n := Int32.toInt_ofNat_of_lt h
  have := nat_of (j := n.toInt32) (by rw [Int32.lt_iff_toInt_lt, e]; have z : (0 : Int32).toInt = 0 := rfl; omega)
  omega
theorem own_len {n : Int32} (A : Arr s s.heap a c ty) (et : t.eval args s none [] s = some (.ref a)) (h : (Cond.eq (.length t) (.int n)).value args s none s [] = some true) {k : Nat} (hk : n.toNatClampNeg = k := by rfl) : c.slots.size = k := by
  have e := own_eqint h
  have ha : s.arrayAt? a = some c := IntBox.arrayAt_of A.1 A.2.1 A.2.2
  by_cases hl : c.slots.size < 2 ^ 31
  · rw [len_f et ha hl] at e
    have e2 : c.slots.size.toInt32 = n := by injection e with e; injection e
    rw [← hk, ← e2]
    exact (own_nat32 hl).symm
  · simp [Term.eval, et, ha, hl] at e
theorem own_elem {j k : Int32} (A : Arr s s.heap a c ty) (et : t.eval args s none [] s = some (.ref a)) (h : (Cond.eq (.elem t (.int j)) (.int k)).value args s none s [] = some true) (hj : ¬ j < 0) : c.slots[j.toNatClampNeg]? = some (.int k) := by
  have e := own_eqint h
  have ha : s.arrayAt? a = some c := IntBox.arrayAt_of A.1 A.2.1 A.2.2
  rw [elem_f et (Term.int_eval j) ha hj] at e
  exact e
theorem own_elemR {j : Int32} {w : Addr} (A : Arr s s.heap a c ty) (et : t.eval args s none [] s = some (.ref a)) (hu : u.eval args s none [] s = some (.ref w)) (h : (Cond.eq (.elem t (.int j)) u).value args s none s [] = some true) (hj : ¬ j < 0) : c.slots[j.toNatClampNeg]? = some (.ref w) := by
  have e := own_eqref hu h
  have ha : s.arrayAt? a = some c := IntBox.arrayAt_of A.1 A.2.1 A.2.2
  rw [elem_f et (Term.int_eval j) ha hj] at e
  exact e
end OwnArr
section OwnMore
variable {Z : State} {h h' : Heap}
theorem own_arr_ne {a b : Addr} {c d : Cell} {t u : FieldType} (A : Arr Z h a c t) (B : Arr Z h b d u) (q : t ≠ u) : a ≠ b := fun e => by
  subst e
  cases A.1.symm.trans B.1
  obtain ⟨-, k1, h1, cp1, h2⟩ := A.2.1
  obtain ⟨-, k2, h3, cp2, h4⟩ := B.2.1
  cases h1.symm.trans h3
  rw [h2] at h4
  injection h4 with _ h5
  exact q h5
theorem own_arv_ne {a b : Addr} {k k' : ClassId} {t u : FieldType} {z z' : Int32} {vs vs' : List Value} {d d' : Value} (A : Arv Z h a k t z vs d) (B : Arv Z h b k' u z' vs' d') (q : t ≠ u) : a ≠ b := by
  obtain ⟨c, A, -⟩ := A
  obtain ⟨c', B, -⟩ := B
  exact own_arr_ne A B q
theorem own_ext (K : Keep h h' []) : Ext h h' := ⟨K.1, fun x c q => K.2.1 x c q nin0⟩
theorem own_fitA {t : FieldType} {w : Value} (hw : w.isRef = true) (ht : t.isReference = true := by rfl) : fits t w = true := by
  rcases ref_cases hw with rfl | ⟨a, rfl⟩ <;> cases t <;> first | rfl | cases ht
end OwnMore
section OwnRem
variable {p : Program} {l : Launch} {e : Env} {R : Room} {s : State} {m : MethodId} {args : Array Value} {below : List Frame} {meth : Method} {c : Code} {T : State} {locs : List Loc} {cells slots : Nat}
theorem own_lrem {g : JFrame} {target : State} (X : Stand p l e R s m args below meth c T locs cells slots) (hx : p.tables.exec = Jvm.exec) (hg : g.method = m) {x y : Int64} {rest : List Value} (hd : decode c.code g.pc = .ok (.lrem, 1)) (hs : g.stack = .long y :: .long x :: rest) (hy : y ≠ 0)
    (hr : Steps p.tables e below (T.setTop { g with pc := g.pc + 1, stack := .long (x % y) :: rest }) target) : Steps p.tables e below (T.setTop g) target :=
  XS.lrem X.here hx hg hd hs hy (by rw [lrem_mod]; exact hr)
end OwnRem
end Jvm.RoadKit
namespace Jvm.RoadKit
open Sem ClassFile Op Lib Jvm.Stand Jvm.Free Jvm.LawKit
theorem own_retD {p : Program} {l : Launch} {e : Env} {R : Room} {s : State} {m : MethodId} {args : Array Value} {below : List Frame} {meth : Method} {c : Code} {T : State} {locs : List Loc} {cells slots : Nat} {h : Heap} (X : Stand p l e R s m args below meth c T locs cells slots) (hx : p.tables.exec = Jvm.exec) (hlocks : meth.locks = false) {pc : Nat} {Ls : Array Slot} {z : UInt64} {rest : List Value} (hret : meth.sig.returnType = some .double)
    (hd : decode c.code pc = .ok (.dreturn, 1)) {Qf : Option Value → Heap → List Loc → Prop} {C Sl : Nat} (eT : T.heap = h) (hc : cells ≤ C) (hs : slots ≤ Sl) (hq : Qf (some (.double z)) h locs) : OwnGo p e below (T.setTop (mkF m pc Ls (.double z :: rest))) (OwnEnd s Qf C Sl) :=
  own_end X hlocks (fun h => by rw [hret] at h; cases h) eT hc hs hq fun fs hr => retOut X hx hret rfl (Or.inr (Or.inr (Or.inl ⟨rfl, rfl, z, rfl⟩))) hd hr
end Jvm.RoadKit
namespace Jvm.Pilot.@@N@@
open Jvm Jvm.ClassFile Sem Op Lib Jvm.Free Jvm.Stand Jvm.LawKit Jvm.RoadKit Bundle Jvm.Pilot.@@N@@.Jvm.D

/-- a is an ordinary Latin-1 String whose bytes are bs -/
def OwnStr (Z : State) (h : Heap) (a : Addr) (bs : List Int32) : Prop := ∃ (t : Addr) (k : ClassId), Exa Z h a "java/lang/String" ∧ Fld Z h a "java/lang/String" "coder" "B" (.int 0) ∧ Fld Z h a "java/lang/String" "value" "[B" (.ref t) ∧ Arv Z h t k .byte (Int32.ofNat bs.length) (bs.map Value.int) (.int 0) ∧ bs.length ≤ 4000
theorem OwnStr.ext {Z : State} {h h' : Heap} {a : Addr} {bs : List Int32} (E : Ext h h') (F : OwnStr Z h a bs) : OwnStr Z h' a bs := by
  obtain ⟨t, k, h1, h2, h3, h4, h5⟩ := F
  exact ⟨t, k, h1.ext E, h2.ext E, h3.ext E, h4.ext E, h5⟩
theorem OwnStr.exa {Z : State} {h : Heap} {a : Addr} {bs : List Int32} (F : OwnStr Z h a bs) : Exa Z h a "java/lang/String" := by
  obtain ⟨t, k, h1, h2, h3, h4, h5⟩ := F
  exact h1
theorem own_exaarv {Z : State} {h : Heap} {t w : Addr} {C : String} {k : ClassId} {ty : FieldType} {z : Int32} {vs : List Value} {d : Value} {a0 : Array Value} {n : Nat} (A : Arv Z h t k ty z vs d) (E : Exa Z h w C) (wi : (Cond.instantiable C n).before a0 Z = true) : t ≠ w := Ne.symm (Exa.neArv E A wi)
theorem OwnStr.wrA {Z : State} {h h' : Heap} {a w : Addr} {bs : List Int32} {sl : Nat} {v : Value} {k : ClassId} {ty : FieldType} {z : Int32} {vs : List Value} {d : Value} {a0 : Array Value} {n : Nat} (W : Wr h h' w sl v) (A : Arv Z h w k ty z vs d) (q : ty ≠ .byte) (wi : (Cond.instantiable "java/lang/String" n).before a0 Z = true) (F : OwnStr Z h a bs) : OwnStr Z h' a bs := by
  obtain ⟨t, k', h1, h2, h3, h4, h5⟩ := F
  have n1 : a ≠ w := Exa.neArv h1 A wi
  have n2 : t ≠ w := Ne.symm (own_arv_ne A h4 q)
  exact ⟨t, k', h1.wr W, h2.other W (Or.inl n1), h3.other W (Or.inl n1), h4.other W n2, h5⟩
theorem OwnStr.wrE {Z : State} {h h' : Heap} {a w : Addr} {bs : List Int32} {sl : Nat} {v : Value} {C : String} {a0 : Array Value} {n : Nat} (W : Wr h h' w sl v) (E : Exa Z h w C) (q : C ≠ "java/lang/String") (wi : (Cond.instantiable C n).before a0 Z = true) (F : OwnStr Z h a bs) : OwnStr Z h' a bs := by
  obtain ⟨t, k', h1, h2, h3, h4, h5⟩ := F
  have n1 : a ≠ w := Exa.ne h1 E (Ne.symm q)
  have n2 : t ≠ w := own_exaarv h4 E wi
  exact ⟨t, k', h1.wr W, h2.other W (Or.inl n1), h3.other W (Or.inl n1), h4.other W n2, h5⟩
theorem OwnStr.keepE {Z : State} {h h' : Heap} {a w : Addr} {bs : List Int32} {C : String} {a0 : Array Value} {n : Nat} (K : Keep h h' [w]) (E : Exa Z h w C) (q : C ≠ "java/lang/String") (wi : (Cond.instantiable C n).before a0 Z = true) (F : OwnStr Z h a bs) : OwnStr Z h' a bs := by
  obtain ⟨t, k', h1, h2, h3, h4, h5⟩ := F
  have n1 : a ≠ w := Exa.ne h1 E (Ne.symm q)
  have n2 : t ≠ w := own_exaarv h4 E wi
  exact ⟨t, k', h1.keep K, h2.keep K (ninS n1 nin0), h3.keep K (ninS n1 nin0), h4.keep K (ninS n2 nin0), h5⟩
theorem own_i32 {n : Nat} (h : n < 2 ^ 31) : (Int32.ofNat n).toInt = n := Int32.toInt_ofNat_of_lt h
theorem own_nn {n : Nat} (h : n < 2 ^ 31) : ¬ Int32.ofNat n < 0 := by
  rw [Int32.lt_iff_toInt_lt, own_i32 h]
  have z : (0 : Int32).toInt = 0 := rfl
  omega
theorem own_clamp {n : Nat} (h : n < 2 ^ 31) : (Int32.ofNat n).toNatClampNeg = n := by
  have := nat_of (own_nn h)
  rw [own_i32 h] at this
  omega
theorem own_lti {i n : Nat} (h : n < 2 ^ 31) (hi : i < n) : Int32.ofNat i < Int32.ofNat n := by
  rw [Int32.lt_iff_toInt_lt, own_i32 h, own_i32 (Nat.lt_trans hi h)]
  omega
theorem own_eqi {i n : Nat} (hi : i < 2 ^ 31) (h : n < 2 ^ 31) (e : Int32.ofNat i = Int32.ofNat n) : i = n := by
  have := congrArg Int32.toInt e
  rw [own_i32 h, own_i32 hi] at this
  omega
theorem own_suci (i : Nat) : Int32.ofNat i + (1 : Int32) = Int32.ofNat (i + 1) := (Int32.ofNat_add i 1).symm
theorem own_mapget (bs : List Int32) (i : Nat) (hi : i < 2 ^ 31) : (bs.map Value.int).getD (Int32.ofNat i).toNatClampNeg (.int 0) = .int (bs.getD i 0) := by
  rw [own_clamp hi]
  simp only [List.getD_eq_getElem?_getD, List.getElem?_map]
  cases bs[i]? <;> rfl
theorem own_exteq {bs ds : List Int32} (hl : bs.length = ds.length) (h : ∀ j, j < bs.length → bs.getD j 0 = ds.getD j 0) : bs = ds := by
  apply List.ext_getElem hl
  intro i h1 h2
  have := h i h1
  simpa [List.getD_eq_getElem?_getD, h1, h2] using this

abbrev own_b (y : Int32) : Int32 := (nar .char y).toInt8.toInt32
theorem own_c255 (x : Int32) : ¬ nar .char ((x &&& (255 : Int32)).toUInt32.toUInt16.toUInt32.toInt32) < 0 ∧ ¬ (255 : Int32) < nar .char ((x &&& (255 : Int32)).toUInt32.toUInt16.toUInt32.toInt32) := by
  have e1 : nar .char ((x &&& (255 : Int32)).toUInt32.toUInt16.toUInt32.toInt32) = x &&& 255 := by
    show ((x &&& (255 : Int32)).toUInt32.toUInt16.toUInt32.toInt32).toUInt32.toUInt16.toUInt32.toInt32 = _
    rw [i2c_mask, i2c_mask]
  rw [e1]
  have h := c_and x 255 (by decide)
  have z : (0 : Int32).toInt = 0 := rfl
  have z2 : (255 : Int32).toInt = 255 := rfl
  constructor <;> rw [Int32.lt_iff_toInt_lt] <;> omega
theorem own_all0 {P : Int32 → Prop} : ∀ x ∈ ([] : List Int32), P x := fun _ q => nomatch q
theorem own_allS {P : Int32 → Prop} {y : Int32} {L : List Int32} (q : P y) (r : ∀ x ∈ L, P x) : ∀ x ∈ y :: L, P x := fun x z => (List.mem_cons.mp z).elim (fun u => u ▸ q) (r x)
theorem own_wV {Z : State} {a0 : Array Value} (hw : ∀ d ∈ tables_1, d.before a0 Z = true) : ∀ d ∈ StrChars.Road.words, d.before a0 Z = true := fun d hd => hw d ((by decide +kernel : ∀ d ∈ StrChars.Road.words, d ∈ tables_1) d hd)
theorem sm_d0 : decode jdk_128_method_19_code 0 = .ok (.ldc2_w 93, 3) := by decide +kernel
theorem sm_d3 : decode jdk_128_method_19_code 3 = .ok (.dstore_n 2, 1) := by decide +kernel
theorem sm_d4 : decode jdk_128_method_19_code 4 = .ok (.dconst 1, 1) := by decide +kernel
theorem sm_d5 : decode jdk_128_method_19_code 5 = .ok (.dload_n 0, 1) := by decide +kernel
theorem sm_d6 : decode jdk_128_method_19_code 6 = .ok (.invokestatic 95, 3) := by decide +kernel
theorem sm_d9 : decode jdk_128_method_19_code 9 = .ok (.dstore 4, 2) := by decide +kernel
theorem sm_d11 : decode jdk_128_method_19_code 11 = .ok (.dload_n 0, 1) := by decide +kernel
theorem sm_d12 : decode jdk_128_method_19_code 12 = .ok (.invokestatic 98, 3) := by decide +kernel
theorem sm_d15 : decode jdk_128_method_19_code 15 = .ok (.dstore_n 0, 1) := by decide +kernel
theorem sm_d16 : decode jdk_128_method_19_code 16 = .ok (.dload_n 0, 1) := by decide +kernel
theorem sm_d17 : decode jdk_128_method_19_code 17 = .ok (.dload_n 2, 1) := by decide +kernel
theorem sm_d18 : decode jdk_128_method_19_code 18 = .ok (.dcmp .g, 1) := by decide +kernel
theorem sm_d19 : decode jdk_128_method_19_code 19 = .ok (.ifCond .ge 9, 3) := by decide +kernel
theorem sm_d22 : decode jdk_128_method_19_code 22 = .ok (.dload_n 2, 1) := by decide +kernel
theorem sm_d23 : decode jdk_128_method_19_code 23 = .ok (.dload_n 0, 1) := by decide +kernel
theorem sm_d24 : decode jdk_128_method_19_code 24 = .ok (.dadd, 1) := by decide +kernel
theorem sm_d25 : decode jdk_128_method_19_code 25 = .ok (.dload_n 2, 1) := by decide +kernel
theorem sm_d26 : decode jdk_128_method_19_code 26 = .ok (.dsub, 1) := by decide +kernel
theorem sm_d27 : decode jdk_128_method_19_code 27 = .ok (.dstore_n 0, 1) := by decide +kernel
theorem sm_d28 : decode jdk_128_method_19_code 28 = .ok (.dload 4, 2) := by decide +kernel
theorem sm_d30 : decode jdk_128_method_19_code 30 = .ok (.dload_n 0, 1) := by decide +kernel
theorem sm_d31 : decode jdk_128_method_19_code 31 = .ok (.dmul, 1) := by decide +kernel
theorem sm_d32 : decode jdk_128_method_19_code 32 = .ok (.dreturn, 1) := by decide +kernel
section OwnRint
open Jvm.FP Jvm.Free.Fl Jvm.Native.java_lang_Math.nans
variable {p : Program} {l : Launch} {e : Env} {R : Room} {s : State} {m : MethodId} {args : Array Value} {below : List Frame} {meth : Method} {c : Code} {T U : State} {locs : List Loc} {cells slots : Nat}
def own_rintRow : NativeRow := (NativeRow.find? Native.java_lang_Math.nans.rows "java/lang/Math" "rint" "(D)D").get (by decide +kernel)
set_option maxRecDepth 100000 in
theorem own_rint_row (p : Program) : NativeRow.find? p.tables.natives "java/lang/Math" "rint" "(D)D" = some own_rintRow := by
  cases p <;> rfl
theorem own_rint_run (b : UInt64) (e : Env) (S : State) {cS : ClassId} {kS : Class} {i : Nat} (hf : S.vm.findClass "java/lang/StrictMath" = some cS) (hk : S.vm.classes[cS]? = some kS) (hi : kS.init = .initialized) (hm : kS.findMethod "rint" "(D)D" = some i) :
    ∃ acts, (own_rintRow.sem #[.double b]).run e S = .ctl (.call ⟨cS, i⟩ #[.double b] 1 #[]) S acts := by
  have hsem : own_rintRow.sem #[.double b] = (do
      let c ← classNamed "java/lang/StrictMath"
      ensureInit c
      let some i := (← theClass c).findMethod "rint" "(D)D" | modelBug ("StrictMath lacks " ++ "rint")
      callThen ⟨c, i⟩ #[.double b] 1 #[]) := rfl
  have hw : wpRun (own_rintRow.sem #[.double b]) (fun _ _ _ => False) (fun c s₂ _ => c = .call ⟨cS, i⟩ #[.double b] 1 #[] ∧ s₂ = S) e S := by
    rw [hsem]
    simp [jvm, wpRun, W.classNamed_ready hf, W.ensureInit_ready ⟨kS, hk, hi⟩, theClass, callThen, hk, hm]
    exact ⟨rfl, rfl, rfl, rfl⟩
  have hw' := (wpRun_iff_run _ _ _ _ _).mp hw
  cases hr : (own_rintRow.sem #[.double b]).run e S with
  | ok v s₂ acts₂ => rw [hr] at hw'; exact hw'.elim
  | ctl x s₂ acts₂ =>
    rw [hr] at hw'
    obtain ⟨rfl, rfl⟩ : x = .call ⟨cS, i⟩ #[.double b] 1 #[] ∧ s₂ = S := by cases x <;> first | exact hw' | exact hw'.elim
    exact ⟨_, rfl⟩
theorem own_rint_resume {r : UInt64} (hn : r &&& 0x7fffffffffffffff ≤ 0x7ff0000000000000) (e : Env) (S : State) : ∃ acts, (own_rintRow.resume 1 #[] (.returned (some (.double r)))).run e S = .ok (some (.double r)) S acts := by
  have hsem : own_rintRow.resume 1 #[] (.returned (some (.double r))) = (do
      let r ← anyNaN64 r
      mark "nat.java_lang_Math.rint"
      Pure.pure (some (.double r))) := rfl
  have hw : wpRun (own_rintRow.resume 1 #[] (.returned (some (.double r)))) (fun v s₂ _ => v = some (.double r) ∧ s₂ = S) (fun _ _ _ => False) e S := by
    rw [hsem]
    simp [jvm, wpRun, anyNaN64, hn]
  have hw' := (wpRun_iff_run _ _ _ _ _).mp hw
  cases hr : (own_rintRow.resume 1 #[] (.returned (some (.double r)))).run e S with
  | ok v s₂ acts₂ => rw [hr] at hw'; obtain ⟨rfl, rfl⟩ := hw'; exact ⟨_, rfl⟩
  | ctl x s₂ acts₂ => rw [hr] at hw'; cases x <;> exact hw'.elim
/-- a static call's instruction over any frames -/
theorem own_invS (hadm : l.admits e) (hat : At T m c below) (hW : s.WarmedH T.vm) (hexec : p.tables.exec = Jvm.exec) {own : String} {index : Nat} {x : MethodName} (hown : s.vm.findClass own = some m.cls) (hlink : (Cond.methodLink own index x).before args s = true)
    {m' : MethodId} {meth' : Method} {k' : Class} (hn : s.methodNamed? x = some m') (hm' : s.vm.method? m' = some meth') (hstatic : meth'.isStatic = true) (hk' : s.vm.classes[m'.cls]? = some k') (hinit : k'.init = .initialized)
    (hx : x.cls ≠ "java/lang/invoke/MethodHandle" ∧ x.cls ≠ "java/lang/invoke/VarHandle") {g : JFrame} (hg : g.method = m) {argsL rest : List Value} (hlen : argsL.length = meth'.sig.parameters.length) (hstack : g.stack = argsL.reverse ++ rest) (hdg : decode c.code g.pc = .ok (.invokestatic index, 3)) :
    ∃ vm', s.WarmedH vm' ∧ At (T.setVm vm') m c below ∧ ∀ target, (∀ acts, Steps p.tables e below (doInvoke e ((T.setVm vm').setTop { g with stack := rest }) acts m' argsL.toArray).1 target) → Steps p.tables e below (T.setTop g) target := by
  have hpl : e.platform.magicAccessors = ({} : Platform).magicAccessors := by rw [hadm.platform]
  have hpv : e.platform.polymorphicOnlyByInvokevirtual = true := by rw [hadm.platform]
  obtain ⟨ci, hl, hright⟩ := Cond.methodLink_spec hown hn hlink e.platform hpl
  obtain ⟨kx, hkx, hnx⟩ := className_of_methodNamed hn
  cases hk'.symm.trans hkx
  have hE : s.MethodEntry e T.vm m.cls index m' ci := State.methodEntry hW hl hright fun k hk => by
    cases hk'.symm.trans hk
    rw [hnx]; exact hx
  obtain ⟨dk, cfile, nt, mname, mdesc, via, ck, _, hd, hcf, hcp, hnt, -, -, hck, -, hnopoly, -⟩ := hl.here
  cases hk'.symm.trans hck
  have alike := hE.warmed.alike
  obtain ⟨dk₂, hdk₂, hed₂⟩ := alike.2.2 _ _ hd
  obtain ⟨k₂, hk₂, he₂⟩ := alike.2.2 _ _ hk'
  have hnone : (k'.methods.any fun y => y.name == mname && !y.isStatic && signaturePolymorphic k' y) = false := by simp [hnopoly]
  have hnone₂ : (k₂.methods.any fun y => y.name == mname && !y.isStatic && signaturePolymorphic k₂ y) = false := by rw [he₂]; exact hnone
  refine ⟨T.vm.called m.cls ci index m', hE.warmed, hat.setVm (hW.alike.symm.trans hE.warmed.alike), fun target hrest => ?_⟩
  subst hg
  jvm_step hat [hexec, hdg, invokestatic.wp_cold (e := e) (s := T) (s₀ := s) (f := g) hat.top hpv hW hE hd hcf hcp hnt hk' hnone,
    invokestatic.wp_ready (e := e) (s := T.setVm (T.vm.called g.method.cls ci index m')) (k := k₂) (meth := meth') (m := m') (args := argsL) (rest := rest) (f := g)
      hat.top ⟨ci, mname, mdesc, via, m'.cls, k₂, memberRef_ask_via (e := e) hdk₂ (by rw [hed₂]; exact hcf) hcp hnt, hE.classReady, hk₂, hnone₂⟩ hE.ready hk₂
      (by show (T.vm.called g.method.cls ci index m').method? m' = some meth'; rw [alike.method?]; exact hm') (by rw [he₂]; exact hnopoly meth') hstatic (by rw [he₂]; exact hinit) hlen hstack]
  exact fun acts => hrest _
set_option maxRecDepth 65536 in
set_option maxHeartbeats 4000000 in
/-- a static method that a row answers, over any frames -/
theorem own_rowS (hadm : l.admits e) (hat : At T m c below) (hW : s.WarmedH T.vm) (hexec : p.tables.exec = Jvm.exec) {own : String} {index : Nat} {y : MethodName} {bytes : ByteArray} {maxL : Nat} {rt ret' : Option FieldType} {ps : List FieldType} {row : NativeRow}
    (hown : s.vm.findClass own = some m.cls) (w1 : (Cond.methodLink own index y).before args s = true) (w2 : (Cond.static y).before args s = true) (w3 : (Cond.initialized y.cls).before args s = true) (w4 : (Cond.code y bytes maxL rt).before args s = true)
    (hy : y.cls ≠ "java/lang/invoke/MethodHandle" ∧ y.cls ≠ "java/lang/invoke/VarHandle") (hrow : NativeRow.find? p.tables.natives y.cls y.name y.desc = some row) (hin : overriddenIn.contains y.cls = true) (hdesc : parseMethodDescriptor y.desc = some { parameters := ps, returnType := ret' })
    {g : JFrame} (hg : g.method = m) {argsL rest : List Value} (hlen : argsL.length = ps.length) (hstack : g.stack = argsL.reverse ++ rest) (hdg : decode c.code g.pc = .ok (.invokestatic index, 3)) {v : Value}
    (hgiven : givenBack (argsToLocals argsL.toArray maxL) (ps.length + (if true then 0 else 1)) = argsL.toArray)
    (hw : ∀ (V : State) (fs : List Frame) (Q : Option Value → Jvm.Pre), (∀ d' acts', Q (some v) d' acts' (V.setFrames fs)) → wp (row.sem argsL.toArray) Q (fun _ _ _ => False) e false [] (V.setFrames fs))
    (hfull : ∀ vm', e.platform.stackFull ((((T.setVm vm').setTop { g with stack := rest }).threads[((T.setVm vm').setTop { g with stack := rest }).cur]?).getD { frames := [] }) ((T.setVm vm').setTop { g with stack := rest }).frames maxL = false) :
    ∃ vm', s.WarmedH vm' ∧ At (T.setVm vm') m c below ∧ ∀ target, Steps p.tables e below ((T.setVm vm').setTop { g with pc := g.pc + 3, stack := v :: rest }) target → Steps p.tables e below (T.setTop g) target := by
  obtain ⟨r, k, x, code, hnamed, N, hml⟩ := OverriddenOf.of_code w4 w2 hdesc
  have hm' : s.vm.method? r = some x := by simp [Vm.method?, N.cls, N.meth]
  obtain ⟨vm', hW', hat', st⟩ := own_invS (l := l) (p := p) (args := args) hadm hat hW hexec hown w1 hnamed hm' N.static N.cls (Cond.initialized_spec (findClass_of_methodNamed hnamed) N.cls w3) hy hg (argsL := argsL) (rest := rest) (by rw [N.sig]; exact hlen) hstack hdg
  refine ⟨vm', hW', hat', fun target k0 => st target fun acts => ?_⟩
  obtain ⟨k2, N2⟩ := N.alike hW'.alike
  subst hg
  exact Steps.overriddenEnds (s := T.setVm vm') (g := { g with stack := rest }) (row := row) (code := code) (v := some v) (T := id) hat' acts N2.cls N2.meth (by rw [N2.className]; exact hin) N2.boot N2.hasCode N2.noLock (by rw [N2.className, N2.name, N2.desc]; exact hrow)
    (by rw [hml]; exact hfull vm') (by rw [hml, N2.sig, N2.static]; exact hgiven) (fun _ => rfl) rfl (fun fs => hat'.code) (hw (T.setVm vm')) hdg k0
theorem own_ldc2D (hat : At T m c below) (hW : s.WarmedH T.vm) (hexec : p.tables.exec = Jvm.exec) {own : String} {index : Nat} {b : UInt64} (hown : s.vm.findClass own = some m.cls) (w : (Cond.constantDouble own index b).before args s = true) {g : JFrame} (hg : g.method = m) (hdg : decode c.code g.pc = .ok (.ldc2_w index, 3)) :
    ∀ target, Steps p.tables e below (T.setTop { g with pc := g.pc + 3, stack := .double b :: g.stack }) target → Steps p.tables e below (T.setTop g) target := by
  obtain ⟨k, cf, hk, hcf, hcp⟩ := Cond.constantDouble_spec hown w
  obtain ⟨k', hk', he⟩ := hW.alike.2.2 _ _ hk
  intro target hrest
  subst hg
  jvm_step hat [hexec, hdg, ldc2_w.wp_double (s := T) (f := g) hat.top hk' (by rw [he]; exact hcf) hcp]
  exact hrest
theorem own_dret (hat : At T m c below) (hexec : p.tables.exec = Jvm.exec) (hm : T.vm.method? m = some meth) (hl : meth.locks = false) (hret : meth.sig.returnType = some .double) {pc : Nat} {Ls : Array Slot} {z : UInt64} {rest : List Value} (hd : decode c.code pc = .ok (.dreturn, 1)) {f₀ : JFrame} {r fs : List Frame} (hf : T.frames = .java f₀ :: r) (hfs : handOver T (some (.double z)) r = some fs) :
    Steps p.tables e below (T.setTop (mkF m pc Ls (.double z :: rest))) (T.setFrames fs) := by
  have hl' : ∀ (f : JFrame) (acts : List Action), f.method = m → f.locked = none → f.entered = [] → (doReturn e (T.setTop f) acts (some (.double z))).1 = T.setFrames fs := fun f acts h1 h2 h3 => ret_to hf (by rw [h1]; exact hm) hl h2 h3 hfs acts
  have hn : narrow .double (.double z) = .double z := rfl
  show Steps p.tables e below (T.setTop { method := m, pc := pc, locals := Ls, stack := _ :: rest, locked := none }) _
  jvm_step hat [hat.top, hexec, hd, hm, hret, hn, Value.isRef]
  first | (intro acts; rw [hl' _ acts rfl rfl rfl]) | rw [hl' _ _ rfl rfl rfl]
  exact Steps.refl _
/-- room for one more frame over this walk's own: the claim weighs the call's making with 1,024 words, the machine books none for a native's frame -/
theorem own_notFull (X : Stand p l e R s m args below meth c U locs cells slots) {g : JFrame} (hsize : g.locals.size = c.maxLocals) {W : Nat} (hW : 2 * g.monitorRoom + (g.stack.map fun v => v.category).sum ≤ W) (hR : 3 ≤ R.frames) (hWR : W ≤ 500) {top : List Frame} {n : Nat} (ht : top.length ≤ 2)
    (hu : (stackUse (top ++ .java g :: below)).2 ≤ (stackUse (.java g :: below)).2 + 40) (hn : n ≤ 8) {S : State} (hS : S.frames = top ++ .java g :: below) (hlim : e.platform.stackLimits S.me = e.platform.stackLimits U.me) : e.platform.stackFull ((S.threads[S.cur]?).getD { frames := [] }) S.frames n = false := by
  obtain ⟨-, r2, -, r4⟩ := State.hasRoom_stack X.room
  rw [State.localsInUse_invoking X.frames X.method X.code] at r4
  rw [X.frames, List.length_cons] at r2
  have h1 := stackUse_le_stackWeight below
  rw [stackUse_java, operandWords_eq] at hu
  have hu : (stackUse (top ++ .java g :: below)).2 ≤ (stackUse below).2 + (g.locals.size + 11 + 2 * g.monitorRoom + (g.stack.map fun v => v.category).sum) + 40 := hu
  rw [hS]
  have hv : vmFrameWords = 1024 := rfl
  refine Platform.stackFull_eq_false (t := (S.threads[S.cur]?).getD { frames := [] }) ?_ ?_
  · show _ < (e.platform.stackLimits S.me).1
    rw [hlim, X.limits, List.length_append, List.length_cons]; omega
  · show _ ≤ (e.platform.stackLimits S.me).2
    rw [hlim, X.limits]; omega
/-- b is a whole number as rint's steps see it -/
abbrev own_K : UInt64 := 4841369599423283200
def OwnWhole (b : UInt64) : Prop := FP.dIsNaN b = false ∧ b &&& 0x7fffffffffffffff ≤ 0x7ff0000000000000 ∧ (b &&& 0x7fffffffffffffff) &&& 0x7fffffffffffffff ≤ 0x7ff0000000000000 ∧ NoNaN64 b ∧ FP.dmul (copySign64 FP.dconst1 b) (b &&& 0x7fffffffffffffff) = b ∧
  (¬ cmpValue (FP.dcmp (b &&& 0x7fffffffffffffff) own_K) .g < 0 ∨ (cmpValue (FP.dcmp (b &&& 0x7fffffffffffffff) own_K) .g < 0 ∧ NoNaN64 (FP.dadd own_K (b &&& 0x7fffffffffffffff)) ∧ NoNaN64 (b &&& 0x7fffffffffffffff) ∧ FP.dsub (FP.dadd own_K (b &&& 0x7fffffffffffffff)) own_K = b &&& 0x7fffffffffffffff))
set_option maxRecDepth 65536 in
set_option maxHeartbeats 4000000 in
/-- StrictMath.rint over a native's frame -/
theorem own_smRint {Z : State} {a0 : Array Value} (hw : ∀ d ∈ tables_1, d.before a0 Z = true) (hadm : l.admits e) (hexec : p.tables.exec = Jvm.exec) (hZ : Z.Warmed39 s.vm) (hat : At T m c below) (hW : s.WarmedH T.vm) (hown : s.vm.findClass "java/lang/StrictMath" = some m.cls) (hby : c.code = jdk_128_method_19_code) (hm : s.vm.method? m = some meth) (hl : meth.locks = false) (hret : meth.sig.returnType = some .double)
    {f₀ : JFrame} {nf : NFrame} {rest : List Frame} (hf : T.frames = .java f₀ :: .native nf :: rest)
    (hfull : ∀ (vm' : Vm) (pc : Nat) (L : Array Slot) (n : Nat), L.size = 6 → n ≤ 8 → e.platform.stackFull ((((T.setVm vm').setTop (mkF m pc L [])).threads[((T.setVm vm').setTop (mkF m pc L [])).cur]?).getD { frames := [] }) ((T.setVm vm').setTop (mkF m pc L [])).frames n = false)
    {b : UInt64} (hb' : OwnWhole b) :
    ∃ vm', s.WarmedH vm' ∧ Steps p.tables e below (T.setTop (mkF m 0 #[.val (.double b), .second, .unset, .unset, .unset, .unset] [])) ((T.setVm vm').setFrames (.native { nf with awaiting := false, answer := some (.returned (some (.double b))) } :: rest)) := by
  obtain ⟨h1, h2, h3, h4, h5, h6⟩ := hb'
  obtain ⟨vm1, hW1, hat1, st1⟩ := own_rowS (l := l) (p := p) (args := (#[] : Array Value)) hadm hat hW hexec hown (mvT hZ (hw _ (List.mem_of_getElem? (i := 51) rfl))) (mvT hZ (hw _ (List.mem_of_getElem? (i := 52) rfl))) (mvT hZ (hw _ (List.mem_of_getElem? (i := 44) rfl))) (mvT hZ (hw _ (List.mem_of_getElem? (i := 53) rfl))) (by decide) (mathCopySign64_row p) (by decide) Jvm.Free.NT.mathCopySign64_desc
    (g := mkF m 6 #[.val (.double b), .second, .val (.double own_K), .second, .unset, .unset] [.double b, .double FP.dconst1]) rfl (argsL := [.double FP.dconst1, .double b]) (rest := []) rfl rfl (hb hby sm_d6) (v := .double (copySign64 FP.dconst1 b)) (givenBack_DD _ _ _) (fun V fs Q hq => Jvm.W.copySign64_of h1 (hq _ _)) (fun vm' => hfull vm' 6 _ _ rfl (by decide))
  obtain ⟨vm2, hW2, hat2, st2⟩ := own_rowS (l := l) (p := p) (args := (#[] : Array Value)) hadm hat1 hW1 hexec hown (mvT hZ (hw _ (List.mem_of_getElem? (i := 54) rfl))) (mvT hZ (hw _ (List.mem_of_getElem? (i := 55) rfl))) (mvT hZ (hw _ (List.mem_of_getElem? (i := 44) rfl))) (mvT hZ (hw _ (List.mem_of_getElem? (i := 56) rfl))) (by decide) (mathAbs64_row p) (by decide) Jvm.Free.NT.mathAbs64_desc
    (g := mkF m 12 #[.val (.double b), .second, .val (.double own_K), .second, .val (.double (copySign64 FP.dconst1 b)), .second] [.double b]) rfl (argsL := [.double b]) (rest := []) rfl rfl (hb hby sm_d12) (v := .double (b &&& 0x7fffffffffffffff)) (givenBack_D _ _) (fun V fs Q hq => Jvm.W.abs64_of h2 (hq _ _)) (fun vm' => hfull vm' 12 _ _ rfl (by decide))
  refine ⟨vm2, hW2, ?_⟩
  have hat2 : At (T.setVm vm2) m c below := hat2
  have tl : Steps p.tables e below ((T.setVm vm2).setTop (mkF m 28 #[.val (.double (b &&& 0x7fffffffffffffff)), .second, .val (.double own_K), .second, .val (.double (copySign64 FP.dconst1 b)), .second] [])) ((T.setVm vm2).setFrames (.native { nf with awaiting := false, answer := some (.returned (some (.double b))) } :: rest)) := by
    refine XS.dload hat2 hexec rfl (hb hby sm_d28) rfl ?_
    refine XS.dloadN hat2 hexec rfl (hb hby sm_d30) rfl ?_
    refine XS.dmulS hat2 hexec rfl (hb hby sm_d31) rfl (by rw [h5]; exact h4) h5 ?_
    exact own_dret hat2 hexec (show (T.setVm vm2).vm.method? m = some meth by show vm2.method? m = some meth; rw [hW2.alike.method?]; exact hm) hl hret (hb hby sm_d32) (f₀ := f₀) (r := .native nf :: rest) hf rfl
  refine own_ldc2D hat hW hexec hown (args := (#[] : Array Value)) (mvT hZ (hw _ (List.mem_of_getElem? (i := 50) rfl))) (g := mkF m 0 _ _) rfl (hb hby sm_d0) _ ?_
  refine XS.dstoreN hat hexec rfl (hb hby sm_d3) rfl (l' := #[.val (.double b), .second, .val (.double own_K), .second, .unset, .unset]) rfl ?_
  refine XS.dconst1 hat hexec rfl (hb hby sm_d4) rfl ?_
  refine XS.dloadN hat hexec rfl (hb hby sm_d5) rfl ?_
  refine st1 _ ?_
  refine XS.dstore hat1 hexec rfl (hb hby sm_d9) rfl (l' := #[.val (.double b), .second, .val (.double own_K), .second, .val (.double (copySign64 FP.dconst1 b)), .second]) rfl ?_
  refine XS.dloadN hat1 hexec rfl (hb hby sm_d11) rfl ?_
  refine st2 _ ?_
  show Steps p.tables e below ((T.setVm vm2).setTop (mkF m 15 #[.val (.double b), .second, .val (.double own_K), .second, .val (.double (copySign64 FP.dconst1 b)), .second] [.double (b &&& 0x7fffffffffffffff)])) _
  refine XS.dstoreN hat2 hexec rfl (hb hby sm_d15) rfl (l' := #[.val (.double (b &&& 0x7fffffffffffffff)), .second, .val (.double own_K), .second, .val (.double (copySign64 FP.dconst1 b)), .second]) rfl ?_
  refine XS.dloadN hat2 hexec rfl (hb hby sm_d16) rfl ?_
  refine XS.dloadN hat2 hexec rfl (hb hby sm_d17) rfl ?_
  refine XS.dcmpS hat2 hexec rfl (hb hby sm_d18) rfl rfl ?_
  rcases h6 with h6 | ⟨h6, h7, h8, h9⟩
  · exact XS.ifYes hat2 hexec rfl (pc0 := 19) (pc' := 28) rfl (hb hby sm_d19) rfl (Jvm.Free.XT.i0_ge_t h6) (by decide) (by decide) tl
  · refine XS.ifNo hat2 hexec rfl (hb hby sm_d19) rfl (Jvm.Free.XT.i0_ge_f h6) ?_
    refine XS.dloadN hat2 hexec rfl (hb hby sm_d22) rfl ?_
    refine XS.dloadN hat2 hexec rfl (hb hby sm_d23) rfl ?_
    refine XS.daddS hat2 hexec rfl (hb hby sm_d24) rfl h7 rfl ?_
    refine XS.dloadN hat2 hexec rfl (hb hby sm_d25) rfl ?_
    refine XS.dsubS hat2 hexec rfl (hb hby sm_d26) rfl (by rw [h9]; exact h8) h9 ?_
    exact XS.dstoreN hat2 hexec rfl (hb hby sm_d27) rfl (l' := #[.val (.double (b &&& 0x7fffffffffffffff)), .second, .val (.double own_K), .second, .val (.double (copySign64 FP.dconst1 b)), .second]) rfl tl
theorem own_descD : parseMethodDescriptor "(D)D" = some { parameters := [.double], returnType := some .double } := by decide +kernel
set_option maxRecDepth 65536 in
set_option maxHeartbeats 4000000 in
/-- **Math.rint of a whole number**: the row calls StrictMath.rint and hands on its answer -/
theorem own_rintBack {Z : State} {a0 : Array Value} (hw : ∀ d ∈ tables_1, d.before a0 Z = true) (hZ : Z.Warmed39 s.vm) (hexec : p.tables.exec = Jvm.exec) {b : UInt64} (hb' : OwnWhole b) {W : Nat} (hWR : W ≤ 500) (hR : 3 ≤ R.frames) (hlo : W + 13 ≤ R.locals) {n0 : Nat} {h : Heap} :
    Back l R p e below s args ⟨"java/lang/Math", "rint", "(D)D"⟩ 3 W (fun A a => a = #[.double b] ∧ A.U.heap = h ∧ A.cells + 0 ≤ R.cells ∧ A.slots + 0 ≤ R.slots)
      (fun A _ v B => ∃ L, (v = some (.double b) ∧ Fr n0 L ∧ B.U.heap = h) ∧ B.locs = A.locs ++ L ∧ B.cells = A.cells + 0 ∧ B.slots = A.slots + 0) := by
  intro m meth c A g ig mk a X hg hsize hdg hW hnamed ⟨ha, hh, _, _⟩
  subst ha hg
  obtain ⟨U, Ls, c0, s0⟩ := A
  dsimp only [Pt.U, Pt.locs, Pt.cells, Pt.slots] at X hnamed hh ⊢
  obtain ⟨r, k, x, code, hn0, N, hml⟩ := OverriddenOf.of_code (s := s) (sargs := args) (mvT hZ (hw _ (List.mem_of_getElem? (i := 45) rfl))) (mvT hZ (hw _ (List.mem_of_getElem? (i := 43) rfl))) own_descD
  cases (X.named hn0).symm.trans hnamed
  obtain ⟨k1, N1⟩ := N.alike X.warmed.alike
  obtain ⟨ms, hnS⟩ := Cond.code_named (mvT (s := s) (args := args) hZ (hw _ (List.mem_of_getElem? (i := 49) rfl)))
  obtain ⟨methS, cS, hmS, hcS, hbyS, hlocS, hretS, hlkS, -, hsigS⟩ := Cond.code_spec hnS (mvT (s := s) (args := args) hZ (hw _ (List.mem_of_getElem? (i := 49) rfl)))
  obtain ⟨kS0, hkS0, -⟩ := className_of_methodNamed hnS
  have hfS0 : s.vm.findClass "java/lang/StrictMath" = some ms.cls := findClass_of_methodNamed hnS
  have hiS0 : kS0.init = .initialized := Cond.initialized_spec hfS0 hkS0 (mvT (s := s) (args := args) hZ (hw _ (List.mem_of_getElem? (i := 48) rfl)))
  have hmS0 : kS0.findMethod "rint" "(D)D" = some ms.idx := by
    have q := hnS
    simp only [State.methodNamed?, Option.bind_eq_bind, Option.pure_def] at q
    rw [hfS0] at q
    simp only [Option.bind_some, hkS0] at q
    cases hfm : kS0.findMethod "rint" "(D)D" with
    | none => rw [hfm] at q; cases q
    | some j => rw [hfm] at q; simp at q; rw [← q]
  have hal : s.vm.Alike U.vm := X.warmed.alike
  have hcur : U.cur < U.threads.size := by obtain ⟨g₀, hr⟩ := X.frames_eq; exact State.cur_lt_of_frames hr
  obtain ⟨g₀, hr⟩ := X.frames_eq
  -- the row's frame
  obtain ⟨nf, hnf⟩ : ∃ nf : NFrame, nf = { method := mk, args := #[.double b], stage := 1, saved := #[], awaiting := true, answer := none, words := 0 } := ⟨_, rfl⟩
  have hfull0 := X.notFull hsize (g := g) (vars := 2) (by omega) (by omega)
  have hm0 : (U.setTop g).vm.method? mk = some x := by show U.vm.method? mk = some x; simp [Vm.method?, N1.cls, N1.meth]
  have e1 : (doInvoke e (U.setTop g) [] mk #[.double b]).1 = U.setFrames (.java (entryFrame mk #[.double b] 2) :: .java g :: below) := by
    rw [(doInvoke_java (s := U.setTop g) (e := e) (acts := []) (args := #[.double b]) (meth := x) (code := code) hm0 N1.hasCode N1.noLock (by rw [hml]; exact hfull0)).1, hml, State.pushFrame, State.frames_setTop _ hr, State.setTop_of_frames _ hr, State.setFrames_setFrames]
    rfl
  have hf1 : (U.setFrames (.java (entryFrame mk #[.double b] 2) :: .java g :: below)).frames = .java (entryFrame mk #[.double b] 2) :: .java g :: below := State.frames_setFrames _ hcur
  obtain ⟨kS, hkS, ekS⟩ := hal.2.2 _ _ hkS0
  have hfS : U.vm.findClass "java/lang/StrictMath" = some ms.cls := by rw [hal.findClass]; exact hfS0
  obtain ⟨acts₂, hr2⟩ := own_rint_run b e (U.setFrames (.native { method := mk, args := #[.double b] } :: .java g :: below)) (cS := ms.cls) (kS := kS) (i := ms.idx) hfS hkS (by rw [ekS]; exact hiS0) (by rw [ekS]; exact hmS0)
  have hgv : givenBack (entryFrame mk #[.double b] 2).locals (x.sig.parameters.length + (if x.isStatic then 0 else 1)) = #[.double b] := by rw [N1.sig, N1.static]; exact givenBack_D b 2
  have hwd : ((U.vm.classes[mk.cls]?).bind fun k => (k.methods[mk.idx]?).map fun n => upcallWords k.name n.name).getD 0 = 0 := by simp [N1.cls, N1.meth, N1.className, N1.name, upcallWords]
  have e2 : (stepThread p.tables e (U.setFrames (.java (entryFrame mk #[.double b] 2) :: .java g :: below))).1 = (doInvoke e (U.setFrames (.native nf :: .java g :: below)) acts₂ ms #[.double b]).1 := by
    rw [stepThread_overridden (f := entryFrame mk #[.double b] 2) (k := k1) (x := x) (row := own_rintRow) hf1 rfl N1.cls N1.meth (by rw [N1.className]; decide) N1.boot (by rw [N1.className, N1.name, N1.desc]; exact own_rint_row p)]
    rw [hgv, State.setFrames_setFrames]
    show (afterNative e { method := mk, args := #[.double b], locked := none } (.java g :: below) ((own_rintRow.sem #[.double b]).run e (U.setFrames (.native { method := mk, args := #[.double b] } :: .java g :: below)))).1 = _
    rw [hr2]
    show (doInvoke e ((U.setFrames _).setFrames (.native { method := mk, args := #[.double b], stage := 1, saved := #[], awaiting := true, answer := none, words := ((U.vm.classes[mk.cls]?).bind fun k => (k.methods[mk.idx]?).map fun n => upcallWords k.name n.name).getD 0 } :: .java g :: below)) acts₂ ms #[.double b]).1 = _
    rw [hwd, State.setFrames_setFrames, hnf]
  -- into StrictMath.rint
  have hmSU : U.vm.method? ms = some methS := by rw [hal.method?]; exact hmS
  have hfN : (U.setFrames (.native nf :: .java g :: below)).frames = .native nf :: .java g :: below := State.frames_setFrames _ hcur
  have hnw : (Frame.native nf).words = 0 := by rw [hnf]; rfl
  have hus : (stackUse ([.native nf] ++ .java g :: below)).2 ≤ (stackUse (.java g :: below)).2 + 40 := by
    show (stackUse (.native nf :: .java g :: below)).2 ≤ _
    rw [stackUse_other _ _ (fun f q => by cases q)]
    show (stackUse (.java g :: below)).2 + (Frame.native nf).words ≤ _
    omega
  have hfull1 := own_notFull X hsize hW hR hWR (top := [.native nf]) (n := cS.maxLocals) (Nat.le_of_ble_eq_true rfl) hus (by rw [hlocS]; decide) (S := U.setFrames (.native nf :: .java g :: below)) hfN (State.stackLimits_setFrames _ _ _)
  have e3 : (doInvoke e (U.setFrames (.native nf :: .java g :: below)) acts₂ ms #[.double b]).1 = U.setFrames (.java (entryFrame ms #[.double b] 6) :: .native nf :: .java g :: below) := by
    rw [(doInvoke_java (s := U.setFrames (.native nf :: .java g :: below)) (e := e) (acts := acts₂) (args := #[.double b]) (meth := methS) (code := cS) hmSU hcS hlkS hfull1).1, hlocS, State.pushFrame, hfN, State.setFrames_setFrames]
    rfl
  obtain ⟨T, hT⟩ : ∃ T : State, T = U.setFrames (.java (entryFrame ms #[.double b] 6) :: .native nf :: .java g :: below) := ⟨_, rfl⟩
  have hfT : T.frames = .java (entryFrame ms #[.double b] 6) :: .native nf :: .java g :: below := by rw [hT]; exact State.frames_setFrames _ hcur
  have hvT : T.vm = U.vm := by rw [hT]; rfl
  have hat : At T ms cS below := by
    refine ⟨by rw [State.topJava?_of_frames hfT]; rfl, ⟨[.native nf, .java g], by rw [hfT]; rfl⟩, ?_, ?_, ?_, ?_, ?_⟩
    · rw [hT]; exact X.here.running
    · rw [hT]; simpa using X.here.runnable
    · rw [hT]; simpa using X.here.alone
    · rw [State.code?_eq, hvT]; simp [hmSU, hcS]
    · intro k2 hk2
      rw [hvT] at hk2
      cases hkS.symm.trans hk2
      have hn2 : kS.name = "java/lang/StrictMath" := by
        obtain ⟨k3, hk3, hn3⟩ := className_of_methodNamed hnS
        cases hkS0.symm.trans hk3
        rw [ekS]; exact hn3
      exact plain_of_name (by rw [hn2]; first | (simp [plainName, overriddenIn]; done) | decide +kernel)
  have hWT : s.WarmedH T.vm := by rw [hvT]; exact X.warmed
  have hentry : T.setTop (mkF ms 0 #[.val (.double b), .second, .unset, .unset, .unset, .unset] []) = T := by
    rw [State.setTop_of_frames _ hfT, hT, State.setFrames_setFrames]
    rfl
  obtain ⟨vm', hW', st⟩ := own_smRint (l := l) (p := p) hw X.admits hexec hZ hat hWT hfS0 hbyS hmS hlkS hretS hfT (fun vm' pc L n hL hn => by
    have hfr : ((T.setVm vm').setTop (mkF ms pc L [])).frames = [.java (mkF ms pc L []), .native nf] ++ .java g :: below := by
      rw [State.setTop_of_frames (s := T.setVm vm') _ hfT]; exact State.frames_setFrames _ (State.cur_lt_of_frames (s := T.setVm vm') hfT)
    have hu2 : (stackUse ([.java (mkF ms pc L []), .native nf] ++ .java g :: below)).2 ≤ (stackUse (.java g :: below)).2 + 40 := by
      show (stackUse (.java (mkF ms pc L []) :: .native nf :: .java g :: below)).2 ≤ _
      rw [stackUse_java, stackUse_other _ _ (fun f q => by cases q)]
      show (stackUse (.java g :: below)).2 + (Frame.native nf).words + (L.size + 11 + 2 * (mkF ms pc L []).monitorRoom + operandWords []) ≤ _
      have z1 : (mkF ms pc L []).monitorRoom = 0 := rfl
      have z2 : operandWords [] = 0 := rfl
      omega
    refine own_notFull X hsize hW hR hWR (Nat.le_of_ble_eq_true rfl) hu2 hn hfr ?_
    rw [State.stackLimits_setTop _ (by rw [State.topJava?_of_frames (s := T.setVm vm') hfT]; rfl)]
    show e.platform.stackLimits T.me = _
    rw [hT]; exact State.stackLimits_setFrames _ _ _) hb'
  rw [hentry] at st
  -- back through the row
  obtain ⟨V, hV⟩ : ∃ V : State, V = (T.setVm vm').setFrames (.native { nf with awaiting := false, answer := some (.returned (some (.double b))) } :: .java g :: below) := ⟨_, rfl⟩
  rw [← hV] at st
  have hV2 : V = (U.setVm vm').setFrames (.native { nf with awaiting := false, answer := some (.returned (some (.double b))) } :: .java g :: below) := by
    rw [hV, hT]
    show ((U.setVm vm').setFrames _).setFrames _ = _
    rw [State.setFrames_setFrames]
  have hcurV : (U.setVm vm').cur < (U.setVm vm').threads.size := hcur
  have hfV : V.frames = .native { nf with awaiting := false, answer := some (.returned (some (.double b))) } :: .java g :: below := by rw [hV2]; exact State.frames_setFrames _ hcurV
  have hvV : V.vm = vm' := by rw [hV2]; rfl
  obtain ⟨k4, N4⟩ := N.alike hW'.alike
  have hWUV : U.vm.Alike vm' := hal.symm.trans hW'.alike
  obtain ⟨acts₃, hr3⟩ := own_rint_resume (r := b) hb'.2.1 e V
  have hcodeV : V.code? g.method = some c := by
    have q : V.code? g.method = U.code? g.method := by rw [State.code?_eq, State.code?_eq, hvV, hWUV.method?]
    rw [q]; exact X.here.code
  have hfs : handOver V (some (.double b)) (.java g :: below) = some (.java { g with pc := g.pc + 3, stack := .double b :: g.stack } :: below) := by
    simp [handOver, hcodeV, hdg, Except.toOption]
  have e4 : (stepThread p.tables e V).1 = (U.setVm vm').setTop { g with pc := g.pc + 3, stack := .double b :: g.stack } := by
    rw [Jvm.Free.Hsc.stepThread_resumed' (f := { nf with awaiting := false, answer := some (.returned (some (.double b))) }) (k := k4) (x := x) (row := own_rintRow) (o := .returned (some (.double b))) hfV (by rw [hvV, hnf]; exact N4.cls) N4.boot (by rw [hnf]; exact N4.meth) (by rw [N4.className, N4.name, N4.desc]; exact own_rint_row p) rfl]
    rw [show (({ nf with awaiting := false, answer := some (.returned (some (.double b))) } : NFrame).stage) = 1 by rw [hnf], show (({ nf with awaiting := false, answer := some (.returned (some (.double b))) } : NFrame).saved) = #[] by rw [hnf], hr3]
    show (doReturn e V acts₃ (some (.double b))).1 = _
    rw [doReturn_native hfV (by rw [hnf]) hfs, hV2, State.setFrames_setFrames, State.setTop_of_frames (s := U.setVm vm') _ hr]
  refine ⟨some (.double b), ⟨U.setVm vm', Ls ++ [], c0 + 0, s0 + 0⟩, ?_, ⟨[], ⟨rfl, Fr.nil _, hh⟩, rfl, rfl, rfl⟩, ?_⟩
  · have q := X.noted hW'
    rw [List.append_nil]; exact q
  · show Steps p.tables e below (doInvoke e (U.setTop g) [] mk #[.double b]).1 ((U.setVm vm').setTop { g with pc := g.pc + 3, stack := .double b :: g.stack })
    rw [e1]
    refine Steps.head ⟨X.here.running, by simpa using X.here.runnable, by simpa using X.here.alone⟩ ⟨[.java (entryFrame mk #[.double b] 2), .java g], by rw [hf1]; rfl, by simp, by simp⟩ ?_
    rw [e2, e3, ← hT]
    refine st.trans ?_
    refine Steps.head ⟨by rw [hV2]; exact X.here.running, by rw [hV2]; simpa using X.here.runnable, by rw [hV2]; simpa using X.here.alone⟩ ⟨[.native { nf with awaiting := false, answer := some (.returned (some (.double b))) }, .java g], by rw [hfV]; rfl, by simp, by simp⟩ ?_
    rw [e4]
    exact Steps.refl _
end OwnRint
section OwnScores
open Jvm.FP Jvm.Free.Fl Jvm.Native.java_lang_Math.nans
theorem own_nnD (a : Int64) : NoNaN64 (FP.l2d a) := nn_w rfl
theorem own_shr63 (x : UInt64) : (x >>> 63).toNat = x.toNat / 9223372036854775808 := by
  rw [UInt64.toNat_shiftRight]
  show x.toNat >>> (63 % 64) = _
  rw [Nat.shiftRight_eq_div_pow]
theorem own_cs1 {x : UInt64} (h : x &&& 0x7fffffffffffffff = x) : copySign64 FP.dconst1 x = FP.l2d 1 := by
  have e : x.toNat % 9223372036854775808 = x.toNat := by have := congrArg UInt64.toNat h; rw [Core.mask_toNat] at this; exact this
  have q := own_shr63 x
  have n : ¬ (x >>> 63 == 1) = true := fun z => by
    have z := congrArg UInt64.toNat (eq_of_beq z)
    rw [q] at z
    have : (1 : UInt64).toNat = 1 := rfl
    have := x.toNat_lt
    omega
  unfold copySign64
  rw [if_neg n]
  decide +kernel
theorem own_cs2 {x : UInt64} (h : ¬ x &&& 0x7fffffffffffffff = x) : copySign64 FP.dconst1 x = FP.l2d (-1) := by
  have e : ¬ x.toNat % 9223372036854775808 = x.toNat := fun z => h (UInt64.toNat.inj (by rw [Core.mask_toNat]; exact z))
  have q := own_shr63 x
  have n : (x >>> 63 == 1) = true := by
    rw [beq_iff_eq]
    refine UInt64.toNat.inj ?_
    rw [q]
    have : (1 : UInt64).toNat = 1 := rfl
    have := x.toNat_lt
    omega
  unfold copySign64
  rw [if_pos n]
  decide +kernel
theorem own_Keq : own_K = FP.l2d 4503599627370496 := by decide +kernel
/-- the magnitude's own road -/
theorem own_mag {w : Int64} (h0 : 0 ≤ w.toInt) (h1 : w.toInt < 9007199254740992) : ¬ cmpValue (FP.dcmp (FP.l2d w) own_K) .g < 0 ∨ (cmpValue (FP.dcmp (FP.l2d w) own_K) .g < 0 ∧ NoNaN64 (FP.dadd own_K (FP.l2d w)) ∧ NoNaN64 (FP.l2d w) ∧ FP.dsub (FP.dadd own_K (FP.l2d w)) own_K = FP.l2d w) := by
  have hs : Core.Small53 w := ⟨by omega, h1⟩
  have hk : Core.Small53 4503599627370496 := ⟨by decide, by decide⟩
  have ek : (4503599627370496 : Int64).toInt = 4503599627370496 := rfl
  have ed : FP.dcmp (FP.l2d w) own_K = some (if w.toInt < 4503599627370496 then .lt else if w.toInt = 4503599627370496 then .eq else .gt) := by rw [own_Keq]; exact Core.dcmp_l2d hs hk
  by_cases hlt : w.toInt < 4503599627370496
  · right
    have ea : FP.dadd own_K (FP.l2d w) = FP.l2d (4503599627370496 + w) := by rw [own_Keq]; exact Core.dadd_l2d hk hs
    have et : (4503599627370496 + w).toInt = 4503599627370496 + w.toInt := by
      rw [Int64.toInt_add, ek]; exact Int.bmod_eq_of_le (by omega) (by omega)
    have es : Core.Small53 (4503599627370496 + w) := ⟨by omega, by omega⟩
    refine ⟨by rw [ed, if_pos hlt]; decide, by rw [ea]; exact own_nnD _, own_nnD _, ?_⟩
    rw [ea, own_Keq]
    have q : FP.dsub (FP.l2d (4503599627370496 + w)) (FP.l2d 4503599627370496) = FP.l2d (4503599627370496 + w - 4503599627370496) := Core.dsub_l2d es hk
    rw [q, Int64.add_comm, Int64.add_sub_cancel]
  · left
    rw [ed, if_neg hlt]
    by_cases h2 : w.toInt = 4503599627370496
    · rw [if_pos h2]; decide
    · rw [if_neg h2]; decide
theorem own_whole {v : Int64} (h1 : -9007199254740992 ≤ v.toInt) (h2 : v.toInt ≤ 9007199254740992) : OwnWhole (FP.l2d v) := by
  by_cases e1 : v = 9007199254740992
  · subst e1
    exact ⟨by decide +kernel, by decide +kernel, by decide +kernel, own_nnD _, by decide +kernel, Or.inl (by decide +kernel)⟩
  by_cases e2 : v = -9007199254740992
  · subst e2
    exact ⟨by decide +kernel, by decide +kernel, by decide +kernel, own_nnD _, by decide +kernel, Or.inl (by decide +kernel)⟩
  have n1 : v.toInt ≠ 9007199254740992 := fun z => e1 (Int64.toInt_inj.mp z)
  have n2 : v.toInt ≠ -9007199254740992 := fun z => e2 (Int64.toInt_inj.mp z)
  have hs : Core.Small53 v := ⟨by omega, by omega⟩
  have z0 : (0 : Int64).toInt = 0 := rfl
  have hnan : FP.dIsNaN (FP.l2d v) = false := Core.l2d_notNaN v
  by_cases hv0 : v = 0
  · subst hv0
    exact ⟨hnan, own_nnD 0, by decide +kernel, own_nnD _, by decide +kernel, by rw [show (FP.l2d 0 &&& 0x7fffffffffffffff) = FP.l2d 0 by decide +kernel]; exact own_mag (by decide) (by decide)⟩
  by_cases hneg : v < 0
  · have habs : (FP.l2d v &&& 0x7fffffffffffffff) = FP.l2d (-v) := Core.l2d_abs_neg hneg hs
    have hlt := Int64.lt_iff_toInt_lt.mp hneg
    have en : (-v).toInt = -v.toInt := by rw [Int64.toInt_neg]; exact Int.bmod_eq_of_le (by omega) (by omega)
    have hsn : Core.Small53 (-v) := ⟨by omega, by omega⟩
    have hne : ¬ (FP.l2d v &&& 0x7fffffffffffffff) = FP.l2d v := fun z => by
      have q1 : FP.d2l (FP.l2d v) = v := Core.d2l_l2d_small hs
      have q2 : FP.d2l (FP.l2d (-v)) = -v := Core.d2l_l2d_small hsn
      rw [← habs, z, q1] at q2
      have := congrArg Int64.toInt q2
      omega
    have hcs := own_cs2 hne
    have hnn2 : ¬ -v = 0 := fun z => by have := congrArg Int64.toInt z; omega
    have hneg2 : ¬ (-v) < 0 := fun z => by have := Int64.lt_iff_toInt_lt.mp z; omega
    have hmul : FP.dmul (FP.l2d (-1)) (FP.l2d (-v)) = FP.l2d (-1 * -v) := Core.dmul_l2d ⟨by decide, by decide⟩ hsn (by decide) hnn2 (by rw [show (-1 : Int64).toInt = -1 from rfl]; omega) (by rw [show (-1 : Int64).toInt = -1 from rfl]; omega)
    refine ⟨hnan, own_nnD v, ?_, own_nnD v, ?_, ?_⟩
    · rw [habs]; exact own_nnD _
    · rw [hcs, habs, hmul, Int64.neg_mul, Int64.one_mul, Int64.neg_neg]
    · rw [habs]; exact own_mag (by omega) (by omega)
  · have habs : (FP.l2d v &&& 0x7fffffffffffffff) = FP.l2d v := Core.l2d_abs hneg
    have hge : ¬ v.toInt < 0 := fun z => hneg (Int64.lt_iff_toInt_lt.mpr z)
    have hcs := own_cs1 habs
    have hmul : FP.dmul (FP.l2d 1) (FP.l2d v) = FP.l2d (1 * v) := Core.dmul_l2d ⟨by decide, by decide⟩ hs (by decide) hv0 (by rw [show (1 : Int64).toInt = 1 from rfl]; omega) (by rw [show (1 : Int64).toInt = 1 from rfl]; omega)
    refine ⟨hnan, own_nnD v, ?_, own_nnD v, ?_, ?_⟩
    · rw [habs]; exact own_nnD v
    · rw [hcs, habs, hmul, Int64.one_mul]
    · rw [habs]; exact own_mag (by omega) (by omega)
theorem own_d2l {v : Int64} (h1 : -9007199254740992 ≤ v.toInt) (h2 : v.toInt ≤ 9007199254740992) : FP.d2l (FP.l2d v) = v := Core.d2l_int (Core.l2d_int (by omega))
theorem own_min {v : Int64} (h1 : -9007199254740992 ≤ v.toInt) (h2 : v.toInt ≤ 9007199254740992) : ¬ cmpValue (FP.dcmp (FP.l2d v) 14069245235905429504) .l < 0 := by
  have e : (14069245235905429504 : UInt64) = FP.l2d (-9007199254740992) := by decide +kernel
  have q : FP.dcmp (FP.l2d v) (FP.l2d (-9007199254740992)) = some (compare v.toInt (-9007199254740992 : Int64).toInt) := Core.dcmp_int (Core.l2d_int (by omega)) (Core.l2d_int (by decide))
  rw [e, q, Core.compare_ite, show (-9007199254740992 : Int64).toInt = -9007199254740992 from rfl, if_neg (by omega)]
  by_cases h : v.toInt = -9007199254740992
  · rw [if_pos h]; decide
  · rw [if_neg h]; decide
theorem own_max {v : Int64} (h1 : -9007199254740992 ≤ v.toInt) (h2 : v.toInt ≤ 9007199254740992) : ¬ 0 < cmpValue (FP.dcmp (FP.l2d v) 4845873199050653696) .g := by
  have e : (4845873199050653696 : UInt64) = FP.l2d 9007199254740992 := by decide +kernel
  have q : FP.dcmp (FP.l2d v) (FP.l2d 9007199254740992) = some (compare v.toInt (9007199254740992 : Int64).toInt) := Core.dcmp_int (Core.l2d_int (by omega)) (Core.l2d_int (by decide))
  rw [e, q, Core.compare_ite, show (9007199254740992 : Int64).toInt = 9007199254740992 from rfl]
  by_cases h : v.toInt < 9007199254740992
  · rw [if_pos h]; decide
  · rw [if_neg h, if_pos (by omega)]; decide
theorem own_range (x : Int64) : -9007199254740992 ≤ (x % (9007199254740993 : Int64)).toInt ∧ (x % (9007199254740993 : Int64)).toInt ≤ 9007199254740992 := by
  rw [Int64.toInt_mod, show (9007199254740993 : Int64).toInt = 9007199254740993 from rfl]
  rcases Int.le_total 0 x.toInt with h | h
  · rw [Int.tmod_eq_emod_of_nonneg h]; omega
  · have q : x.toInt.tmod 9007199254740993 = -((-x.toInt) % 9007199254740993) := by
      rw [← Int.tmod_eq_emod_of_nonneg (by omega : 0 ≤ -x.toInt), Int.neg_tmod, Int.neg_neg]
    rw [q]; omega
end OwnScores
theorem own_ge {v k : Int64} {K : Int} (hk : k.toInt = K) (h : K ≤ v.toInt) : ¬ v < k := by rw [Int64.lt_iff_toInt_lt, hk]; omega
theorem own_le {v k : Int64} {K : Int} (hk : k.toInt = K) (h : v.toInt ≤ K) : ¬ k < v := by rw [Int64.lt_iff_toInt_lt, hk]; omega
theorem ts_d0 : decode prog_6_method_2_code 0 = .ok (.lload_n 1, 1) := by decide +kernel
theorem ts_d1 : decode prog_6_method_2_code 1 = .ok (.ldc2_w 9, 3) := by decide +kernel
theorem ts_d4 : decode prog_6_method_2_code 4 = .ok (.lcmp, 1) := by decide +kernel
theorem ts_d5 : decode prog_6_method_2_code 5 = .ok (.ifCond .lt 11, 3) := by decide +kernel
theorem ts_d8 : decode prog_6_method_2_code 8 = .ok (.lload_n 1, 1) := by decide +kernel
theorem ts_d9 : decode prog_6_method_2_code 9 = .ok (.ldc2_w 11, 3) := by decide +kernel
theorem ts_d12 : decode prog_6_method_2_code 12 = .ok (.lcmp, 1) := by decide +kernel
theorem ts_d13 : decode prog_6_method_2_code 13 = .ok (.ifCond .le 19, 3) := by decide +kernel
theorem ts_d32 : decode prog_6_method_2_code 32 = .ok (.lload_n 1, 1) := by decide +kernel
theorem ts_d33 : decode prog_6_method_2_code 33 = .ok (.l2d, 1) := by decide +kernel
theorem ts_d34 : decode prog_6_method_2_code 34 = .ok (.dreturn, 1) := by decide +kernel
theorem ts_pn : plainName "com/example/sorted_set_patterns/sortedsetpatterns/Scores" = true := by first | (simp [plainName, overriddenIn]; done) | decide +kernel
theorem ts_ef (m : MethodId) (x0 : Addr) (x1 : Int64) : entryFrame m #[(.ref x0), (.long x1)] 3 = mkF m 0 #[.val (.ref x0), .val (.long x1), .second] [] := by first | (simp [entryFrame, mkF, argsToLocals, Value.category]; done) | rfl
set_option maxRecDepth 65536 in
set_option maxHeartbeats 40000000 in
theorem rm_ts (l : Launch) (Z : State) (a0 : Array Value) (hw : ∀ d ∈ tables_1, d.before a0 Z = true) (ws : List Jvm.Cond) (a1 : Addr) (vx : Int64) (h0 : Heap) (n0 : Nat) (Z0 : n0 ≤ h0.size) (hv1 : -9007199254740992 ≤ vx.toInt) (hv2 : vx.toInt ≤ 9007199254740992) :
    MetFree l (⟨"com/example/sorted_set_patterns/sortedsetpatterns/Scores", "toScore", "(Ljava/lang/String;J)D"⟩ : MethodName) (head1 (Jvm.Cond.code (⟨"com/example/sorted_set_patterns/sortedsetpatterns/Scores", "toScore", "(Ljava/lang/String;J)D"⟩ : MethodName) prog_6_method_2_code 3 (some .double) :: ws) ({ frames := 0, cells := 0, slots := 0, locals := 0 } : Room)) (fun a U => a = #[(.ref a1), (.long vx)] ∧ Z.Warmed39 U.vm ∧ U.heap = h0) (fun _ _ _ _ _ => True) (fun _ U o U' => OwnEnd U (fun v h L => v = some (.double (FP.l2d vx)) ∧ Fr n0 L ∧ h = h0) ({ frames := 0, cells := 0, slots := 0, locals := 0 } : Room).cells ({ frames := 0, cells := 0, slots := 0, locals := 0 } : Room).slots o U') := by
  refine MetFree.of_bodySF (plainFor_of_name ts_pn) hisR ?_
  intro p e s m args below meth c s₁ Bd hml0 hP hK
  obtain ⟨rfl, hZ, hh⟩ := hP
  have hx := Bd.exec
  have hby := Bd.bytes
  have hml : c.maxLocals = 3 := hml0
  have hown : s.vm.findClass "com/example/sorted_set_patterns/sortedsetpatterns/Scores" = some m.cls := findClass_of_methodNamed Bd.named
  have hnm := (name_of_methodNamed Bd.named Bd.method).1
  have X0 : Stand p l e ({ frames := 0, cells := 0, slots := 0, locals := 0 } : Room) s m #[(.ref a1), (.long vx)] below meth c s₁ [] 0 0 := Stand.of_body Bd
  have e0 : s₁.heap = h0 := by rw [← hh, Bd.state]; rfl
  have N0 := Fr.nil n0
  have KP0 := Keep.refl h0 []
  refine own_go (Q := (OwnEnd s (fun v h L => v = some (.double (FP.l2d vx)) ∧ Fr n0 L ∧ h = h0) ({ frames := 0, cells := 0, slots := 0, locals := 0 } : Room).cells ({ frames := 0, cells := 0, slots := 0, locals := 0 } : Room).slots)) ?_
  refine own_back (fun t k => castTop (ts_ef m a1 vx) k) ?_
  show OwnGo p e below (s₁.setTop (mkF m 0 #[.val (.ref a1), .val (.long vx), .second] [])) _
  refine own_back (fun t k => XS.lloadN X0.here hx rfl (hb hby ts_d0) rfl k) ?_
  show OwnGo p e below (s₁.setTop (mkF m 1 #[.val (.ref a1), .val (.long vx), .second] [(.long vx)])) _
  refine own_back (fun t k => X0.ldc2Long hx hown (mvT hZ (hw _ (List.mem_of_getElem? (i := 35) rfl))) (g := (mkF m 1 #[.val (.ref a1), .val (.long vx), .second] [(.long vx)])) rfl (hb hby ts_d1) t k) ?_
  show OwnGo p e below (s₁.setTop (mkF m 4 #[.val (.ref a1), .val (.long vx), .second] [(.long (-9007199254740992 : Int64)), (.long vx)])) _
  refine own_back (fun t k => XT.lcmp X0.here hx rfl (hb hby ts_d4) rfl k) ?_
  show OwnGo p e below (s₁.setTop (mkF m 5 #[.val (.ref a1), .val (.long vx), .second] [(.int (XT.cmpL vx (-9007199254740992 : Int64)))])) _
  refine own_back (fun t k => XS.ifNo X0.here hx rfl (hb hby ts_d5) rfl (Jvm.Free.XT.ll_lt_f (own_ge rfl hv1)) k) ?_
  show OwnGo p e below (s₁.setTop (mkF m 8 #[.val (.ref a1), .val (.long vx), .second] [])) _
  refine own_back (fun t k => XS.lloadN X0.here hx rfl (hb hby ts_d8) rfl k) ?_
  show OwnGo p e below (s₁.setTop (mkF m 9 #[.val (.ref a1), .val (.long vx), .second] [(.long vx)])) _
  refine own_back (fun t k => X0.ldc2Long hx hown (mvT hZ (hw _ (List.mem_of_getElem? (i := 36) rfl))) (g := (mkF m 9 #[.val (.ref a1), .val (.long vx), .second] [(.long vx)])) rfl (hb hby ts_d9) t k) ?_
  show OwnGo p e below (s₁.setTop (mkF m 12 #[.val (.ref a1), .val (.long vx), .second] [(.long (9007199254740992 : Int64)), (.long vx)])) _
  refine own_back (fun t k => XT.lcmp X0.here hx rfl (hb hby ts_d12) rfl k) ?_
  show OwnGo p e below (s₁.setTop (mkF m 13 #[.val (.ref a1), .val (.long vx), .second] [(.int (XT.cmpL vx (9007199254740992 : Int64)))])) _
  refine own_back (fun t k => XS.ifYes X0.here hx rfl (pc0 := 13) (pc' := 32) rfl (hb hby ts_d13) rfl (Jvm.Free.XT.ll_le_t (own_le rfl hv2)) (by decide) (by decide) k) ?_
  show OwnGo p e below (s₁.setTop (mkF m 32 #[.val (.ref a1), .val (.long vx), .second] [])) _
  refine own_back (fun t k => XS.lloadN X0.here hx rfl (hb hby ts_d32) rfl k) ?_
  show OwnGo p e below (s₁.setTop (mkF m 33 #[.val (.ref a1), .val (.long vx), .second] [(.long vx)])) _
  refine own_back (fun t k => XS.l2dS X0.here hx rfl (hb hby ts_d33) rfl rfl k) ?_
  show OwnGo p e below (s₁.setTop (mkF m 34 #[.val (.ref a1), .val (.long vx), .second] [(.double (FP.l2d vx))])) _
  refine own_retD X0 hx Bd.notSynchronized Bd.returns (hb hby ts_d34) e0 (Nat.le_of_ble_eq_true rfl) (Nat.le_of_ble_eq_true rfl) ?_
  exact ⟨rfl, N0, rfl⟩
theorem tv_d0 : decode prog_6_method_3_code 0 = .ok (.dload_n 1, 1) := by decide +kernel
theorem tv_d1 : decode prog_6_method_3_code 1 = .ok (.ldc2_w 18, 3) := by decide +kernel
theorem tv_d4 : decode prog_6_method_3_code 4 = .ok (.dcmp .l, 1) := by decide +kernel
theorem tv_d5 : decode prog_6_method_3_code 5 = .ok (.ifCond .lt 20, 3) := by decide +kernel
theorem tv_d8 : decode prog_6_method_3_code 8 = .ok (.dload_n 1, 1) := by decide +kernel
theorem tv_d9 : decode prog_6_method_3_code 9 = .ok (.ldc2_w 20, 3) := by decide +kernel
theorem tv_d12 : decode prog_6_method_3_code 12 = .ok (.dcmp .g, 1) := by decide +kernel
theorem tv_d13 : decode prog_6_method_3_code 13 = .ok (.ifCond .gt 12, 3) := by decide +kernel
theorem tv_d16 : decode prog_6_method_3_code 16 = .ok (.dload_n 1, 1) := by decide +kernel
theorem tv_d17 : decode prog_6_method_3_code 17 = .ok (.dload_n 1, 1) := by decide +kernel
theorem tv_d18 : decode prog_6_method_3_code 18 = .ok (.invokestatic 22, 3) := by decide +kernel
theorem tv_d21 : decode prog_6_method_3_code 21 = .ok (.dcmp .l, 1) := by decide +kernel
theorem tv_d22 : decode prog_6_method_3_code 22 = .ok (.ifCond .eq 18, 3) := by decide +kernel
theorem tv_d40 : decode prog_6_method_3_code 40 = .ok (.dload_n 1, 1) := by decide +kernel
theorem tv_d41 : decode prog_6_method_3_code 41 = .ok (.d2l, 1) := by decide +kernel
theorem tv_d42 : decode prog_6_method_3_code 42 = .ok (.lreturn, 1) := by decide +kernel
theorem tv_pn : plainName "com/example/sorted_set_patterns/sortedsetpatterns/Scores" = true := by first | (simp [plainName, overriddenIn]; done) | decide +kernel
theorem tv_pd0 : parseMethodDescriptor "(D)D" = some ⟨[.double], some .double⟩ := by decide +kernel
theorem tv_ef (m : MethodId) (x0 : Addr) (x1 : UInt64) : entryFrame m #[(.ref x0), (.double x1)] 3 = mkF m 0 #[.val (.ref x0), .val (.double x1), .second] [] := by first | (simp [entryFrame, mkF, argsToLocals, Value.category]; done) | rfl
set_option maxRecDepth 65536 in
set_option maxHeartbeats 40000000 in
theorem rm_tv (l : Launch) (Z : State) (a0 : Array Value) (hw : ∀ d ∈ tables_1, d.before a0 Z = true) (ws : List Jvm.Cond) (a1 : Addr) (vx : Int64) (h0 : Heap) (n0 : Nat) (Z0 : n0 ≤ h0.size) (hv1 : -9007199254740992 ≤ vx.toInt) (hv2 : vx.toInt ≤ 9007199254740992) :
    MetFree l (⟨"com/example/sorted_set_patterns/sortedsetpatterns/Scores", "toValue", "(Ljava/lang/String;D)J"⟩ : MethodName) (head1 (Jvm.Cond.code (⟨"com/example/sorted_set_patterns/sortedsetpatterns/Scores", "toValue", "(Ljava/lang/String;D)J"⟩ : MethodName) prog_6_method_3_code 3 (some .long) :: ws) ({ frames := 4, cells := 0, slots := 0, locals := 40 } : Room)) (fun a U => a = #[(.ref a1), (.double (FP.l2d vx))] ∧ Z.Warmed39 U.vm ∧ U.heap = h0) (fun _ _ _ _ _ => True) (fun _ U o U' => OwnEnd U (fun v h L => v = some (.long vx) ∧ Fr n0 L ∧ h = h0) ({ frames := 4, cells := 0, slots := 0, locals := 40 } : Room).cells ({ frames := 4, cells := 0, slots := 0, locals := 40 } : Room).slots o U') := by
  refine MetFree.of_bodySF (plainFor_of_name tv_pn) hisR ?_
  intro p e s m args below meth c s₁ Bd hml0 hP hK
  obtain ⟨rfl, hZ, hh⟩ := hP
  have hx := Bd.exec
  have hby := Bd.bytes
  have hml : c.maxLocals = 3 := hml0
  have hown : s.vm.findClass "com/example/sorted_set_patterns/sortedsetpatterns/Scores" = some m.cls := findClass_of_methodNamed Bd.named
  have hnm := (name_of_methodNamed Bd.named Bd.method).1
  have X0 : Stand p l e ({ frames := 4, cells := 0, slots := 0, locals := 40 } : Room) s m #[(.ref a1), (.double (FP.l2d vx))] below meth c s₁ [] 0 0 := Stand.of_body Bd
  have e0 : s₁.heap = h0 := by rw [← hh, Bd.state]; rfl
  have N0 := Fr.nil n0
  have KP0 := Keep.refl h0 []
  refine own_go (Q := (OwnEnd s (fun v h L => v = some (.long vx) ∧ Fr n0 L ∧ h = h0) ({ frames := 4, cells := 0, slots := 0, locals := 40 } : Room).cells ({ frames := 4, cells := 0, slots := 0, locals := 40 } : Room).slots)) ?_
  refine own_back (fun t k => castTop (tv_ef m a1 (FP.l2d vx)) k) ?_
  show OwnGo p e below (s₁.setTop (mkF m 0 #[.val (.ref a1), .val (.double (FP.l2d vx)), .second] [])) _
  refine own_back (fun t k => XS.dloadN X0.here hx rfl (hb hby tv_d0) rfl k) ?_
  show OwnGo p e below (s₁.setTop (mkF m 1 #[.val (.ref a1), .val (.double (FP.l2d vx)), .second] [(.double (FP.l2d vx))])) _
  refine own_back (fun t k => X0.ldc2DoubleC hx hown (mvT hZ (hw _ (List.mem_of_getElem? (i := 40) rfl))) (g := (mkF m 1 #[.val (.ref a1), .val (.double (FP.l2d vx)), .second] [(.double (FP.l2d vx))])) rfl (hb hby tv_d1) t k) ?_
  show OwnGo p e below (s₁.setTop (mkF m 4 #[.val (.ref a1), .val (.double (FP.l2d vx)), .second] [(.double (14069245235905429504 : UInt64)), (.double (FP.l2d vx))])) _
  refine own_back (fun t k => XS.dcmpS X0.here hx rfl (hb hby tv_d4) rfl rfl k) ?_
  show OwnGo p e below (s₁.setTop (mkF m 5 #[.val (.ref a1), .val (.double (FP.l2d vx)), .second] [(.int (cmpValue (FP.dcmp (FP.l2d vx) (14069245235905429504 : UInt64)) .l))])) _
  refine own_back (fun t k => XS.ifNo X0.here hx rfl (hb hby tv_d5) rfl (Jvm.Free.XT.i0_lt_f (own_min hv1 hv2)) k) ?_
  show OwnGo p e below (s₁.setTop (mkF m 8 #[.val (.ref a1), .val (.double (FP.l2d vx)), .second] [])) _
  refine own_back (fun t k => XS.dloadN X0.here hx rfl (hb hby tv_d8) rfl k) ?_
  show OwnGo p e below (s₁.setTop (mkF m 9 #[.val (.ref a1), .val (.double (FP.l2d vx)), .second] [(.double (FP.l2d vx))])) _
  refine own_back (fun t k => X0.ldc2DoubleC hx hown (mvT hZ (hw _ (List.mem_of_getElem? (i := 41) rfl))) (g := (mkF m 9 #[.val (.ref a1), .val (.double (FP.l2d vx)), .second] [(.double (FP.l2d vx))])) rfl (hb hby tv_d9) t k) ?_
  show OwnGo p e below (s₁.setTop (mkF m 12 #[.val (.ref a1), .val (.double (FP.l2d vx)), .second] [(.double (4845873199050653696 : UInt64)), (.double (FP.l2d vx))])) _
  refine own_back (fun t k => XS.dcmpS X0.here hx rfl (hb hby tv_d12) rfl rfl k) ?_
  show OwnGo p e below (s₁.setTop (mkF m 13 #[.val (.ref a1), .val (.double (FP.l2d vx)), .second] [(.int (cmpValue (FP.dcmp (FP.l2d vx) (4845873199050653696 : UInt64)) .g))])) _
  refine own_back (fun t k => XS.ifNo X0.here hx rfl (hb hby tv_d13) rfl (Jvm.Free.XT.i0_gt_f (own_max hv1 hv2)) k) ?_
  show OwnGo p e below (s₁.setTop (mkF m 16 #[.val (.ref a1), .val (.double (FP.l2d vx)), .second] [])) _
  refine own_back (fun t k => XS.dloadN X0.here hx rfl (hb hby tv_d16) rfl k) ?_
  show OwnGo p e below (s₁.setTop (mkF m 17 #[.val (.ref a1), .val (.double (FP.l2d vx)), .second] [(.double (FP.l2d vx))])) _
  refine own_back (fun t k => XS.dloadN X0.here hx rfl (hb hby tv_d17) rfl k) ?_
  show OwnGo p e below (s₁.setTop (mkF m 18 #[.val (.ref a1), .val (.double (FP.l2d vx)), .second] [(.double (FP.l2d vx)), (.double (FP.l2d vx))])) _
  obtain ⟨_, _, ⟨T101, L101, k101, n101⟩, -, X101, ⟨Lc101, hQ101, l101, y101, z101⟩, st101⟩ := Jvm.LawKit.callS X0 hx (y := (⟨"java/lang/Math", "rint", "(D)D"⟩ : MethodName)) hown (mvT hZ (hw _ (List.mem_of_getElem? (i := 42) rfl))) (mvT hZ (hw _ (List.mem_of_getElem? (i := 43) rfl))) (mvT hZ (hw _ (List.mem_of_getElem? (i := 44) rfl))) (mvT hZ (hw _ (List.mem_of_getElem? (i := 45) rfl))) (by decide) (own_rintBack (W := 2) (n0 := n0) (h := h0) hw hZ hx (own_whole hv1 hv2) (by decide) (by decide) (by decide)) (g := (mkF m 18 #[.val (.ref a1), .val (.double (FP.l2d vx)), .second] [(.double (FP.l2d vx)), (.double (FP.l2d vx))])) rfl (by rw [hml]; rfl) (argsL := [(.double (FP.l2d vx))]) (rest := [(.double (FP.l2d vx))]) (lenOf tv_pd0 rfl) rfl (by show 2 * 0 + _ ≤ _; exact Nat.le_of_eq rfl) (hb hby tv_d18) (fun _ _ => ⟨rfl, e0, Nat.le_of_ble_eq_true rfl, Nat.le_of_ble_eq_true rfl⟩)
  dsimp only [Pt.U, Pt.locs, Pt.cells, Pt.slots] at X101 l101 y101 z101 st101 hQ101
  subst l101 y101 z101
  obtain ⟨rfl, N101q, hh101⟩ := hQ101
  refine own_back st101 ?_
  have N101 := Fr.app N0 N101q
  show OwnGo p e below (T101.setTop (mkF m 21 #[.val (.ref a1), .val (.double (FP.l2d vx)), .second] [(.double (FP.l2d vx)), (.double (FP.l2d vx))])) _
  refine own_back (fun t k => XS.dcmpS X101.here hx rfl (hb hby tv_d21) rfl rfl k) ?_
  show OwnGo p e below (T101.setTop (mkF m 22 #[.val (.ref a1), .val (.double (FP.l2d vx)), .second] [(.int (cmpValue (FP.dcmp (FP.l2d vx) (FP.l2d vx)) .l))])) _
  refine own_back (fun t k => XS.ifYes X101.here hx rfl (pc0 := 22) (pc' := 40) rfl (hb hby tv_d22) rfl (Jvm.Free.XT.i0_eq_t (dcmpV_self (own_nnD vx) .l)) (by decide) (by decide) k) ?_
  show OwnGo p e below (T101.setTop (mkF m 40 #[.val (.ref a1), .val (.double (FP.l2d vx)), .second] [])) _
  refine own_back (fun t k => XS.dloadN X101.here hx rfl (hb hby tv_d40) rfl k) ?_
  show OwnGo p e below (T101.setTop (mkF m 41 #[.val (.ref a1), .val (.double (FP.l2d vx)), .second] [(.double (FP.l2d vx))])) _
  refine own_back (fun t k => XS.d2lS X101.here hx rfl (hb hby tv_d41) rfl (own_d2l hv1 hv2) k) ?_
  show OwnGo p e below (T101.setTop (mkF m 42 #[.val (.ref a1), .val (.double (FP.l2d vx)), .second] [(.long vx)])) _
  refine own_retJ X101 hx Bd.notSynchronized Bd.returns (hb hby tv_d42) hh101 (Nat.le_of_ble_eq_true rfl) (Nat.le_of_ble_eq_true rfl) ?_
  exact ⟨rfl, N101, rfl⟩
theorem lw_pn : plainName "com/example/sorted_set_patterns/sortedsetpatterns/ScoresToScorePinLaw" = true := by first | (simp [plainName, overriddenIn]; done) | decide +kernel
theorem lw_pd0 : parseMethodDescriptor "([C)V" = some ⟨[(.array .char)], none⟩ := by decide +kernel
theorem lw_pd1 : parseMethodDescriptor "(Ljava/lang/String;J)D" = some ⟨[(.object "java/lang/String"), .long], some .double⟩ := by decide +kernel
theorem lw_pd2 : parseMethodDescriptor "(Ljava/lang/String;D)J" = some ⟨[(.object "java/lang/String"), .double], some .long⟩ := by decide +kernel
theorem lw_ef (m : MethodId) (x0 : Int64) (x1 : Int32) (x2 : Int32) : entryFrame m #[(.long x0), (.int x1), (.int x2)] maxLocals = mkF m 0 #[.val (.long x0), .second, .val (.int x1), .val (.int x2), .unset, .unset, .unset, .unset, .unset, .unset, .unset] [] := by first | (simp [entryFrame, mkF, argsToLocals, Value.category, maxLocals]; done) | rfl
set_option maxRecDepth 65536 in
set_option maxHeartbeats 40000000 in
theorem rm_law (l : Launch) (Z : State) (a0 : Array Value) (hw : ∀ d ∈ tables_1, d.before a0 Z = true) (ws : List Jvm.Cond) (x1 : Int64) (p2 : Int32) (p3 : Int32) (cz : Int32) (h0 : Heap) (n0 : Nat) (Z0 : n0 ≤ h0.size) (OL : Old Z n0 h0) (SC : Sta Z Z.heap "java/lang/String" "COMPACT_STRINGS" "Z" (.int cz)) (hcz : ¬ cz = 0) :
    MetFree l x (head1 (Jvm.Cond.code x code maxLocals ret :: ws) room_1) (fun a U => a = #[(.long x1), (.int p2), (.int p3)] ∧ Z.Warmed39 U.vm ∧ U.heap = h0) (fun _ _ _ _ _ => True) (fun _ U o U' => OwnEnd U (fun v h L => v = some (.int 1) ∧ Fr n0 L) room_1.cells room_1.slots o U') := by
  refine MetFree.of_bodySF (plainFor_of_name lw_pn) hisR ?_
  intro p e s m args below meth c s₁ Bd hml0 hP hK
  obtain ⟨rfl, hZ, hh⟩ := hP
  have hx := Bd.exec
  have hby := Bd.bytes
  have hml : c.maxLocals = 11 := hml0
  have hown : s.vm.findClass "com/example/sorted_set_patterns/sortedsetpatterns/ScoresToScorePinLaw" = some m.cls := findClass_of_methodNamed Bd.named
  have hnm := (name_of_methodNamed Bd.named Bd.method).1
  have X0 : Stand p l e room_1 s m #[(.long x1), (.int p2), (.int p3)] below meth c s₁ [] 0 0 := Stand.of_body Bd
  have e0 : s₁.heap = h0 := by rw [← hh, Bd.state]; rfl
  have N0 := Fr.nil n0
  have KP0 := Keep.refl h0 []
  refine own_go (Q := (OwnEnd s (fun v h L => v = some (.int 1) ∧ Fr n0 L) room_1.cells room_1.slots)) ?_
  refine own_back (fun t k => castTop (lw_ef m x1 p2 p3) k) ?_
  show OwnGo p e below (s₁.setTop (mkF m 0 #[.val (.long x1), .second, .val (.int p2), .val (.int p3), .unset, .unset, .unset, .unset, .unset, .unset, .unset] [])) _
  refine own_back (fun t k => XS.iloadN X0.here hx rfl (hb hby at_0) rfl k) ?_
  show OwnGo p e below (s₁.setTop (mkF m 1 #[.val (.long x1), .second, .val (.int p2), .val (.int p3), .unset, .unset, .unset, .unset, .unset, .unset, .unset] [(.int p2)])) _
  refine own_back (fun t k => XS.iconst X0.here hx rfl (hb hby at_1) k) ?_
  show OwnGo p e below (s₁.setTop (mkF m 2 #[.val (.long x1), .second, .val (.int p2), .val (.int p3), .unset, .unset, .unset, .unset, .unset, .unset, .unset] [(.int (3 : Int32)), (.int p2)])) _
  refine own_back (fun t k => XS.iand X0.here hx rfl (hb hby at_2) rfl k) ?_
  show OwnGo p e below (s₁.setTop (mkF m 3 #[.val (.long x1), .second, .val (.int p2), .val (.int p3), .unset, .unset, .unset, .unset, .unset, .unset, .unset] [(.int (p2 &&& (3 : Int32)))])) _
  refine own_back (fun t k => XS.istore X0.here hx rfl (hb hby at_3) rfl (l' := #[.val (.long x1), .second, .val (.int p2), .val (.int p3), .unset, .unset, .val (.int (p2 &&& (3 : Int32))), .unset, .unset, .unset, .unset]) rfl k) ?_
  show OwnGo p e below (s₁.setTop (mkF m 5 #[.val (.long x1), .second, .val (.int p2), .val (.int p3), .unset, .unset, .val (.int (p2 &&& (3 : Int32))), .unset, .unset, .unset, .unset] [])) _
  refine own_back (fun t k => XS.iload X0.here hx rfl (hb hby at_5) rfl k) ?_
  show OwnGo p e below (s₁.setTop (mkF m 7 #[.val (.long x1), .second, .val (.int p2), .val (.int p3), .unset, .unset, .val (.int (p2 &&& (3 : Int32))), .unset, .unset, .unset, .unset] [(.int (p2 &&& (3 : Int32)))])) _
  by_cases hc7_102 : (p2 &&& (3 : Int32)) = (0 : Int32)
  · refine own_back (fun t k => XS.ifNo X0.here hx rfl (hb hby at_7) rfl (Jvm.Free.XT.i0_ne_f hc7_102) k) ?_
    show OwnGo p e below (s₁.setTop (mkF m 10 #[.val (.long x1), .second, .val (.int p2), .val (.int p3), .unset, .unset, .val (.int (p2 &&& (3 : Int32))), .unset, .unset, .unset, .unset] [])) _
    refine own_back (fun t k => X0.ldc2Long hx hown (mvT hZ (hw _ (List.mem_of_getElem? (i := 57) rfl))) (g := (mkF m 10 #[.val (.long x1), .second, .val (.int p2), .val (.int p3), .unset, .unset, .val (.int (p2 &&& (3 : Int32))), .unset, .unset, .unset, .unset] [])) rfl (hb hby at_10) t k) ?_
    show OwnGo p e below (s₁.setTop (mkF m 13 #[.val (.long x1), .second, .val (.int p2), .val (.int p3), .unset, .unset, .val (.int (p2 &&& (3 : Int32))), .unset, .unset, .unset, .unset] [(.long (9007199254740992 : Int64))])) _
    refine own_back (fun t k => XS.lstore X0.here hx rfl (hb hby at_13) rfl (l' := #[.val (.long x1), .second, .val (.int p2), .val (.int p3), .val (.long (9007199254740992 : Int64)), .second, .val (.int (p2 &&& (3 : Int32))), .unset, .unset, .unset, .unset]) rfl k) ?_
    show OwnGo p e below (s₁.setTop (mkF m 15 #[.val (.long x1), .second, .val (.int p2), .val (.int p3), .val (.long (9007199254740992 : Int64)), .second, .val (.int (p2 &&& (3 : Int32))), .unset, .unset, .unset, .unset] [])) _
    refine own_back (fun t k => XS.goto X0.here hx rfl (pc0 := 15) (pc' := 39) rfl (hb hby at_15) (by decide) (by decide) k) ?_
    show OwnGo p e below (s₁.setTop (mkF m 39 #[.val (.long x1), .second, .val (.int p2), .val (.int p3), .val (.long (9007199254740992 : Int64)), .second, .val (.int (p2 &&& (3 : Int32))), .unset, .unset, .unset, .unset] [])) _
    obtain ⟨vv, hvv⟩ : ∃ z : Int64, z = (9007199254740992 : Int64) := ⟨_, rfl⟩
    rw [← hvv]
    show OwnGo p e below (s₁.setTop (mkF m 39 #[.val (.long x1), .second, .val (.int p2), .val (.int p3), .val (.long vv), .second, .val (.int (p2 &&& (3 : Int32))), .unset, .unset, .unset, .unset] [])) _
    obtain ⟨hv1, hv2⟩ : -9007199254740992 ≤ vv.toInt ∧ vv.toInt ≤ 9007199254740992 := by rw [hvv]; decide
    show OwnGo p e below (s₁.setTop (mkF m 39 #[.val (.long x1), .second, .val (.int p2), .val (.int p3), .val (.long vv), .second, .val (.int (p2 &&& (3 : Int32))), .unset, .unset, .unset, .unset] [])) _
    refine own_back (fun t k => XS.iconst X0.here hx rfl (hb hby at_39) k) ?_
    show OwnGo p e below (s₁.setTop (mkF m 40 #[.val (.long x1), .second, .val (.int p2), .val (.int p3), .val (.long vv), .second, .val (.int (p2 &&& (3 : Int32))), .unset, .unset, .unset, .unset] [(.int (2 : Int32))])) _
    obtain ⟨T103, h103, k103, X103, e103, E103, A103, st103⟩ := newP X0 hx hZ (hw _ (List.mem_of_getElem? (i := 1) rfl)) e0 (g := (mkF m 40 #[.val (.long x1), .second, .val (.int p2), .val (.int p3), .val (.long vv), .second, .val (.int (p2 &&& (3 : Int32))), .unset, .unset, .unset, .unset] [(.int (2 : Int32))])) rfl (hb hby at_40) rfl (by decide) (cap := 2) (by decide) (by decide) (Nat.le_of_ble_eq_true rfl) (Nat.le_of_ble_eq_true rfl)
    obtain ⟨b103, g103⟩ : ∃ z, z = h0.size := ⟨_, rfl⟩
    have ge104 : n0 ≤ b103 := Nat.le_trans Z0 (Nat.le_of_eq g103.symm)
    have sz105 : h0.size ≤ b103 := Nat.le_trans KP0.1 (Nat.le_of_eq g103.symm)
    rw [← g103] at A103 st103
    have O106 := OL.ext E103
    have KP107 := KP0.ext E103
    have Zs108 := Nat.le_trans Z0 E103.1
    have V109 : Arv Z h103 b103 k103 .char (2 : Int32) [(.int (0 : Int32)), (.int (0 : Int32))] (.int (0 : Int32)) := (Arv.new A103 (by decide)).pad (pad_rep [] (.int (0 : Int32)) 2)
    refine own_back st103 ?_
    show OwnGo p e below (T103.setTop (mkF m 42 #[.val (.long x1), .second, .val (.int p2), .val (.int p3), .val (.long vv), .second, .val (.int (p2 &&& (3 : Int32))), .unset, .unset, .unset, .unset] [(.ref b103)])) _
    refine own_back (fun t k => XS.astore X103.here hx rfl (hb hby at_42) rfl rfl (l' := #[.val (.long x1), .second, .val (.int p2), .val (.int p3), .val (.long vv), .second, .val (.int (p2 &&& (3 : Int32))), .val (.ref b103), .unset, .unset, .unset]) rfl k) ?_
    show OwnGo p e below (T103.setTop (mkF m 44 #[.val (.long x1), .second, .val (.int p2), .val (.int p3), .val (.long vv), .second, .val (.int (p2 &&& (3 : Int32))), .val (.ref b103), .unset, .unset, .unset] [])) _
    refine own_back (fun t k => XS.aload X103.here hx rfl (hb hby at_44) rfl rfl k) ?_
    show OwnGo p e below (T103.setTop (mkF m 46 #[.val (.long x1), .second, .val (.int p2), .val (.int p3), .val (.long vv), .second, .val (.int (p2 &&& (3 : Int32))), .val (.ref b103), .unset, .unset, .unset] [(.ref b103)])) _
    refine own_back (fun t k => XS.iconst X103.here hx rfl (hb hby at_46) k) ?_
    show OwnGo p e below (T103.setTop (mkF m 47 #[.val (.long x1), .second, .val (.int p2), .val (.int p3), .val (.long vv), .second, .val (.int (p2 &&& (3 : Int32))), .val (.ref b103), .unset, .unset, .unset] [(.int (0 : Int32)), (.ref b103)])) _
    refine own_back (fun t k => XS.iloadN X103.here hx rfl (hb hby at_47) rfl k) ?_
    show OwnGo p e below (T103.setTop (mkF m 48 #[.val (.long x1), .second, .val (.int p2), .val (.int p3), .val (.long vv), .second, .val (.int (p2 &&& (3 : Int32))), .val (.ref b103), .unset, .unset, .unset] [(.int p3), (.int (0 : Int32)), (.ref b103)])) _
    refine own_back (fun t k => XS.sipush X103.here hx rfl (hb hby at_48) k) ?_
    show OwnGo p e below (T103.setTop (mkF m 51 #[.val (.long x1), .second, .val (.int p2), .val (.int p3), .val (.long vv), .second, .val (.int (p2 &&& (3 : Int32))), .val (.ref b103), .unset, .unset, .unset] [(.int (255 : Int32)), (.int p3), (.int (0 : Int32)), (.ref b103)])) _
    refine own_back (fun t k => XS.iand X103.here hx rfl (hb hby at_51) rfl k) ?_
    show OwnGo p e below (T103.setTop (mkF m 52 #[.val (.long x1), .second, .val (.int p2), .val (.int p3), .val (.long vv), .second, .val (.int (p2 &&& (3 : Int32))), .val (.ref b103), .unset, .unset, .unset] [(.int (p3 &&& (255 : Int32))), (.int (0 : Int32)), (.ref b103)])) _
    refine own_back (fun t k => XS.i2c X103.here hx rfl (hb hby at_52) rfl k) ?_
    show OwnGo p e below (T103.setTop (mkF m 53 #[.val (.long x1), .second, .val (.int p2), .val (.int p3), .val (.long vv), .second, .val (.int (p2 &&& (3 : Int32))), .val (.ref b103), .unset, .unset, .unset] [(.int (p3 &&& (255 : Int32)).toUInt32.toUInt16.toUInt32.toInt32), (.int (0 : Int32)), (.ref b103)])) _
    obtain ⟨c110, A110, q110, S110, M110, H110, U110⟩ := id V109
    obtain ⟨T111, h111, X111, e111, W111, st111⟩ := stC X103 hx hZ e103 A110 (j := (0 : Int32)) (inb_of S110 ⟨by decide, by decide⟩) (g := (mkF m 53 #[.val (.long x1), .second, .val (.int p2), .val (.int p3), .val (.long vv), .second, .val (.int (p2 &&& (3 : Int32))), .val (.ref b103), .unset, .unset, .unset] [(.int (p3 &&& (255 : Int32)).toUInt32.toUInt16.toUInt32.toInt32), (.int (0 : Int32)), (.ref b103)])) rfl rfl (hb hby at_53)
    have O112 := O106.wr W111 ge104
    have KP113 := KP107.wr W111 (Or.inr sz105)
    have Zs114 := Nat.le_trans Zs108 (Keep.of_wr W111).1
    have V115 : Arv Z h111 b103 k103 .char (2 : Int32) [(.int (nar .char (p3 &&& (255 : Int32)).toUInt32.toUInt16.toUInt32.toInt32)), (.int (0 : Int32))] (.int (0 : Int32)) := Arv.set A110 q110 S110 M110 H110 U110 (fits_nar_char _) W111 0 rfl (Nat.le_of_ble_eq_true rfl)
    have N116 := Fr.snoc X111 N0 ge104
    refine own_back st111 ?_
    show OwnGo p e below (T111.setTop (mkF m 54 #[.val (.long x1), .second, .val (.int p2), .val (.int p3), .val (.long vv), .second, .val (.int (p2 &&& (3 : Int32))), .val (.ref b103), .unset, .unset, .unset] [])) _
    refine own_back (fun t k => XS.aload X111.here hx rfl (hb hby at_54) rfl rfl k) ?_
    show OwnGo p e below (T111.setTop (mkF m 56 #[.val (.long x1), .second, .val (.int p2), .val (.int p3), .val (.long vv), .second, .val (.int (p2 &&& (3 : Int32))), .val (.ref b103), .unset, .unset, .unset] [(.ref b103)])) _
    refine own_back (fun t k => XS.iconst X111.here hx rfl (hb hby at_56) k) ?_
    show OwnGo p e below (T111.setTop (mkF m 57 #[.val (.long x1), .second, .val (.int p2), .val (.int p3), .val (.long vv), .second, .val (.int (p2 &&& (3 : Int32))), .val (.ref b103), .unset, .unset, .unset] [(.int (1 : Int32)), (.ref b103)])) _
    refine own_back (fun t k => XS.iloadN X111.here hx rfl (hb hby at_57) rfl k) ?_
    show OwnGo p e below (T111.setTop (mkF m 58 #[.val (.long x1), .second, .val (.int p2), .val (.int p3), .val (.long vv), .second, .val (.int (p2 &&& (3 : Int32))), .val (.ref b103), .unset, .unset, .unset] [(.int p3), (.int (1 : Int32)), (.ref b103)])) _
    refine own_back (fun t k => XS.bipush X111.here hx rfl (hb hby at_58) k) ?_
    show OwnGo p e below (T111.setTop (mkF m 60 #[.val (.long x1), .second, .val (.int p2), .val (.int p3), .val (.long vv), .second, .val (.int (p2 &&& (3 : Int32))), .val (.ref b103), .unset, .unset, .unset] [(.int (8 : Int32)), (.int p3), (.int (1 : Int32)), (.ref b103)])) _
    refine own_back (fun t k => XS.iushr X111.here hx rfl (hb hby at_60) rfl k) ?_
    show OwnGo p e below (T111.setTop (mkF m 61 #[.val (.long x1), .second, .val (.int p2), .val (.int p3), .val (.long vv), .second, .val (.int (p2 &&& (3 : Int32))), .val (.ref b103), .unset, .unset, .unset] [(.int ((p3.toUInt32 >>> ((8 : Int32) &&& 31).toUInt32).toInt32)), (.int (1 : Int32)), (.ref b103)])) _
    refine own_back (fun t k => XS.sipush X111.here hx rfl (hb hby at_61) k) ?_
    show OwnGo p e below (T111.setTop (mkF m 64 #[.val (.long x1), .second, .val (.int p2), .val (.int p3), .val (.long vv), .second, .val (.int (p2 &&& (3 : Int32))), .val (.ref b103), .unset, .unset, .unset] [(.int (255 : Int32)), (.int ((p3.toUInt32 >>> ((8 : Int32) &&& 31).toUInt32).toInt32)), (.int (1 : Int32)), (.ref b103)])) _
    refine own_back (fun t k => XS.iand X111.here hx rfl (hb hby at_64) rfl k) ?_
    show OwnGo p e below (T111.setTop (mkF m 65 #[.val (.long x1), .second, .val (.int p2), .val (.int p3), .val (.long vv), .second, .val (.int (p2 &&& (3 : Int32))), .val (.ref b103), .unset, .unset, .unset] [(.int (((p3.toUInt32 >>> ((8 : Int32) &&& 31).toUInt32).toInt32) &&& (255 : Int32))), (.int (1 : Int32)), (.ref b103)])) _
    refine own_back (fun t k => XS.i2c X111.here hx rfl (hb hby at_65) rfl k) ?_
    show OwnGo p e below (T111.setTop (mkF m 66 #[.val (.long x1), .second, .val (.int p2), .val (.int p3), .val (.long vv), .second, .val (.int (p2 &&& (3 : Int32))), .val (.ref b103), .unset, .unset, .unset] [(.int (((p3.toUInt32 >>> ((8 : Int32) &&& 31).toUInt32).toInt32) &&& (255 : Int32)).toUInt32.toUInt16.toUInt32.toInt32), (.int (1 : Int32)), (.ref b103)])) _
    obtain ⟨c117, A117, q117, S117, M117, H117, U117⟩ := id V115
    obtain ⟨T118, h118, X118, e118, W118, st118⟩ := stC X111 hx hZ e111 A117 (j := (1 : Int32)) (inb_of S117 ⟨by decide, by decide⟩) (g := (mkF m 66 #[.val (.long x1), .second, .val (.int p2), .val (.int p3), .val (.long vv), .second, .val (.int (p2 &&& (3 : Int32))), .val (.ref b103), .unset, .unset, .unset] [(.int (((p3.toUInt32 >>> ((8 : Int32) &&& 31).toUInt32).toInt32) &&& (255 : Int32)).toUInt32.toUInt16.toUInt32.toInt32), (.int (1 : Int32)), (.ref b103)])) rfl rfl (hb hby at_66)
    have O119 := O112.wr W118 ge104
    have KP120 := KP113.wr W118 (Or.inr sz105)
    have Zs121 := Nat.le_trans Zs114 (Keep.of_wr W118).1
    have V122 : Arv Z h118 b103 k103 .char (2 : Int32) [(.int (nar .char (p3 &&& (255 : Int32)).toUInt32.toUInt16.toUInt32.toInt32)), (.int (nar .char (((p3.toUInt32 >>> ((8 : Int32) &&& 31).toUInt32).toInt32) &&& (255 : Int32)).toUInt32.toUInt16.toUInt32.toInt32))] (.int (0 : Int32)) := Arv.set A117 q117 S117 M117 H117 U117 (fits_nar_char _) W118 1 rfl (Nat.le_of_ble_eq_true rfl)
    have N123 := Fr.snoc X118 N116 ge104
    refine own_back st118 ?_
    show OwnGo p e below (T118.setTop (mkF m 67 #[.val (.long x1), .second, .val (.int p2), .val (.int p3), .val (.long vv), .second, .val (.int (p2 &&& (3 : Int32))), .val (.ref b103), .unset, .unset, .unset] [])) _
    obtain ⟨T124, h124, X124, e124, E124, A124, D124, -, st124⟩ := newO X118 hx hZ hown (hw _ (List.mem_of_getElem? (i := 2) rfl)) (hw _ (List.mem_of_getElem? (i := 3) rfl)) (hw _ (List.mem_of_getElem? (i := 4) rfl)) e118 (g := (mkF m 67 #[.val (.long x1), .second, .val (.int p2), .val (.int p3), .val (.long vv), .second, .val (.int (p2 &&& (3 : Int32))), .val (.ref b103), .unset, .unset, .unset] [])) rfl (hb hby at_67) (Nat.le_of_ble_eq_true rfl) (Nat.le_of_ble_eq_true rfl)
    obtain ⟨b124, g124⟩ : ∃ z, z = h118.size := ⟨_, rfl⟩
    have ge125 : n0 ≤ b124 := Nat.le_trans Zs121 (Nat.le_of_eq g124.symm)
    have sz126 : h0.size ≤ b124 := Nat.le_trans KP120.1 (Nat.le_of_eq g124.symm)
    rw [← g124] at A124 D124 st124
    have O127 := O119.ext E124
    have KP128 := KP120.ext E124
    have Zs129 := Nat.le_trans Zs121 E124.1
    have f130 := V122.ext E124
    have F131 : Fld Z h124 b124 "java/lang/String" "coder" "B" (.int (0 : Int32)) := D124 (Or.inr (hw _ (List.mem_of_getElem? (i := 28) rfl))) (ty := .byte) (by decide)
    have F132 : Fld Z h124 b124 "java/lang/String" "value" "[B" .null := D124 (Or.inr (hw _ (List.mem_of_getElem? (i := 30) rfl))) (ty := (.array .byte)) (by decide)
    refine own_back st124 ?_
    show OwnGo p e below (T124.setTop (mkF m 70 #[.val (.long x1), .second, .val (.int p2), .val (.int p3), .val (.long vv), .second, .val (.int (p2 &&& (3 : Int32))), .val (.ref b103), .unset, .unset, .unset] [(.ref b124)])) _
    refine own_back (fun t k => XS.dup X124.here hx rfl (hb hby at_70) rfl rfl k) ?_
    show OwnGo p e below (T124.setTop (mkF m 71 #[.val (.long x1), .second, .val (.int p2), .val (.int p3), .val (.long vv), .second, .val (.int (p2 &&& (3 : Int32))), .val (.ref b103), .unset, .unset, .unset] [(.ref b124), (.ref b124)])) _
    refine own_back (fun t k => XS.aload X124.here hx rfl (hb hby at_71) rfl rfl k) ?_
    show OwnGo p e below (T124.setTop (mkF m 73 #[.val (.long x1), .second, .val (.int p2), .val (.int p3), .val (.long vv), .second, .val (.int (p2 &&& (3 : Int32))), .val (.ref b103), .unset, .unset, .unset] [(.ref b103), (.ref b124), (.ref b124)])) _
    obtain ⟨_, _, ⟨T133, L133, k133, n133⟩, -, X133, ⟨Lc133, hQ133, l133, y133, z133⟩, st133⟩ := X124.specialBack hx (y := (⟨"java/lang/String", "<init>", "([C)V"⟩ : MethodName)) rfl hown (mvT hZ (hw _ (List.mem_of_getElem? (i := 5) rfl))) (mvT hZ (hw _ (List.mem_of_getElem? (i := 6) rfl))) (mvT hZ (hw _ (List.mem_of_getElem? (i := 7) rfl))) (by decide) (StrChars.Road.backV (W := 1) hZ (own_wV hw) (kI := 4) (hw _ (List.mem_of_getElem? (i := 3) rfl)) (cs := ([(nar .char (p3 &&& (255 : Int32)).toUInt32.toUInt16.toUInt32.toInt32), (nar .char (((p3.toUInt32 >>> ((8 : Int32) &&& 31).toUInt32).toInt32) &&& (255 : Int32)).toUInt32.toUInt16.toUInt32.toInt32)] : List Int32)) (bs := ([(nar .char (p3 &&& (255 : Int32)).toUInt32.toUInt16.toUInt32.toInt32), (nar .char (((p3.toUInt32 >>> ((8 : Int32) &&& 31).toUInt32).toInt32) &&& (255 : Int32)).toUInt32.toUInt16.toUInt32.toInt32)] : List Int32).map (fun c => c.toInt8.toInt32)) (n := 2) ge125 Zs129 A124 F132 F131 f130 (SC.ext O127.2) hcz rfl rfl (by decide) (by decide) (own_allS (own_c255 _) (own_allS (own_c255 _) own_all0)) rfl (by decide) (by decide)) (g := (mkF m 73 #[.val (.long x1), .second, .val (.int p2), .val (.int p3), .val (.long vv), .second, .val (.int (p2 &&& (3 : Int32))), .val (.ref b103), .unset, .unset, .unset] [(.ref b103), (.ref b124), (.ref b124)])) rfl (by rw [hml]; rfl) (Steps.refl _) (a := b124) (argsL := [(.ref b103)]) (rest := [(.ref b124)]) (lenOf lw_pd0 rfl) rfl (by show 2 * 0 + _ ≤ _; exact Nat.le_of_eq rfl) (hb hby at_73) (fun _ _ => ⟨rfl, e124, Nat.le_of_ble_eq_true rfl, Nat.le_of_ble_eq_true rfl⟩)
    dsimp only [Pt.U, Pt.locs, Pt.cells, Pt.slots] at X133 l133 y133 z133 st133 hQ133
    subst l133 y133 z133
    obtain ⟨rfl, N133q, K133, EX133, C133, t133, kb133, gt133, zt133, nt133, FV133, AV133⟩ := hQ133
    refine own_seq st133 ?_
    have N133 := Fr.app N123 N133q
    have O134 := O127.keep K133 (allS ge125 all0)
    have KP135 := KP128.trans K133 (allS (Or.inr sz126) all0)
    have Zs136 := Nat.le_trans Zs129 K133.1
    have f137 := f130.keep K133 (ninS (Nat.ne_of_lt (Nat.lt_of_lt_of_le V122.lt (Nat.le_of_eq g124.symm))) nin0)
    have f138 := A124.keep K133
    show OwnGo p e below (T133.setTop (mkF m 76 #[.val (.long x1), .second, .val (.int p2), .val (.int p3), .val (.long vv), .second, .val (.int (p2 &&& (3 : Int32))), .val (.ref b103), .unset, .unset, .unset] [(.ref b124)])) _
    refine own_back (fun t k => XS.astore X133.here hx rfl (hb hby at_76) rfl rfl (l' := #[.val (.long x1), .second, .val (.int p2), .val (.int p3), .val (.long vv), .second, .val (.int (p2 &&& (3 : Int32))), .val (.ref b103), .val (.ref b124), .unset, .unset]) rfl k) ?_
    show OwnGo p e below (T133.setTop (mkF m 78 #[.val (.long x1), .second, .val (.int p2), .val (.int p3), .val (.long vv), .second, .val (.int (p2 &&& (3 : Int32))), .val (.ref b103), .val (.ref b124), .unset, .unset] [])) _
    refine own_back (fun t k => XS.aload X133.here hx rfl (hb hby at_78) rfl rfl k) ?_
    show OwnGo p e below (T133.setTop (mkF m 80 #[.val (.long x1), .second, .val (.int p2), .val (.int p3), .val (.long vv), .second, .val (.int (p2 &&& (3 : Int32))), .val (.ref b103), .val (.ref b124), .unset, .unset] [(.ref b124)])) _
    refine own_back (fun t k => XS.lload X133.here hx rfl (hb hby at_80) rfl k) ?_
    show OwnGo p e below (T133.setTop (mkF m 82 #[.val (.long x1), .second, .val (.int p2), .val (.int p3), .val (.long vv), .second, .val (.int (p2 &&& (3 : Int32))), .val (.ref b103), .val (.ref b124), .unset, .unset] [(.long vv), (.ref b124)])) _
    obtain ⟨_, _, ⟨T139, L139, k139, n139⟩, -, X139, ⟨Lc139, hQ139, l139, y139, z139⟩, st139⟩ := Jvm.LawKit.callS X133 hx (y := (⟨"com/example/sorted_set_patterns/sortedsetpatterns/Scores", "toScore", "(Ljava/lang/String;J)D"⟩ : MethodName)) hown (mvT hZ (hw _ (List.mem_of_getElem? (i := 31) rfl))) (mvT hZ (hw _ (List.mem_of_getElem? (i := 32) rfl))) (mvT hZ (hw _ (List.mem_of_getElem? (i := 33) rfl))) (mvT hZ (hw _ (List.mem_of_getElem? (i := 34) rfl))) (by decide) (own_backN (W := 0) (rm_ts l Z a0 hw [] b124 vv T133.heap n0 Zs136 hv1 hv2) hZ (hw _ (List.mem_of_getElem? (i := 34) rfl)) (hw _ (List.mem_of_getElem? (i := 33) rfl)) (by decide) (by decide)) (g := (mkF m 82 #[.val (.long x1), .second, .val (.int p2), .val (.int p3), .val (.long vv), .second, .val (.int (p2 &&& (3 : Int32))), .val (.ref b103), .val (.ref b124), .unset, .unset] [(.long vv), (.ref b124)])) rfl (by rw [hml]; rfl) (argsL := [(.ref b124), (.long vv)]) (rest := []) (lenOf lw_pd1 rfl) rfl (by show 2 * 0 + _ ≤ _; exact Nat.le_of_eq rfl) (hb hby at_82) (fun _ _ => ⟨rfl, rfl, Nat.le_of_ble_eq_true rfl, Nat.le_of_ble_eq_true rfl⟩)
    dsimp only [Pt.U, Pt.locs, Pt.cells, Pt.slots] at X139 l139 y139 z139 st139 hQ139
    subst l139 y139 z139
    obtain ⟨rfl, N139q, hh139⟩ := hQ139
    refine own_back st139 ?_
    have N139 := Fr.app N133 N139q
    show OwnGo p e below (T139.setTop (mkF m 85 #[.val (.long x1), .second, .val (.int p2), .val (.int p3), .val (.long vv), .second, .val (.int (p2 &&& (3 : Int32))), .val (.ref b103), .val (.ref b124), .unset, .unset] [(.double (FP.l2d vv))])) _
    refine own_back (fun t k => XS.dstore X139.here hx rfl (hb hby at_85) rfl (l' := #[.val (.long x1), .second, .val (.int p2), .val (.int p3), .val (.long vv), .second, .val (.int (p2 &&& (3 : Int32))), .val (.ref b103), .val (.ref b124), .val (.double (FP.l2d vv)), .second]) rfl k) ?_
    show OwnGo p e below (T139.setTop (mkF m 87 #[.val (.long x1), .second, .val (.int p2), .val (.int p3), .val (.long vv), .second, .val (.int (p2 &&& (3 : Int32))), .val (.ref b103), .val (.ref b124), .val (.double (FP.l2d vv)), .second] [])) _
    refine own_back (fun t k => XS.dload X139.here hx rfl (hb hby at_87) rfl k) ?_
    show OwnGo p e below (T139.setTop (mkF m 89 #[.val (.long x1), .second, .val (.int p2), .val (.int p3), .val (.long vv), .second, .val (.int (p2 &&& (3 : Int32))), .val (.ref b103), .val (.ref b124), .val (.double (FP.l2d vv)), .second] [(.double (FP.l2d vv))])) _
    refine own_back (fun t k => XS.lload X139.here hx rfl (hb hby at_89) rfl k) ?_
    show OwnGo p e below (T139.setTop (mkF m 91 #[.val (.long x1), .second, .val (.int p2), .val (.int p3), .val (.long vv), .second, .val (.int (p2 &&& (3 : Int32))), .val (.ref b103), .val (.ref b124), .val (.double (FP.l2d vv)), .second] [(.long vv), (.double (FP.l2d vv))])) _
    refine own_back (fun t k => XS.l2dS X139.here hx rfl (hb hby at_91) rfl rfl k) ?_
    show OwnGo p e below (T139.setTop (mkF m 92 #[.val (.long x1), .second, .val (.int p2), .val (.int p3), .val (.long vv), .second, .val (.int (p2 &&& (3 : Int32))), .val (.ref b103), .val (.ref b124), .val (.double (FP.l2d vv)), .second] [(.double (FP.l2d vv)), (.double (FP.l2d vv))])) _
    refine own_back (fun t k => XS.dcmpS X139.here hx rfl (hb hby at_92) rfl rfl k) ?_
    show OwnGo p e below (T139.setTop (mkF m 93 #[.val (.long x1), .second, .val (.int p2), .val (.int p3), .val (.long vv), .second, .val (.int (p2 &&& (3 : Int32))), .val (.ref b103), .val (.ref b124), .val (.double (FP.l2d vv)), .second] [(.int (cmpValue (FP.dcmp (FP.l2d vv) (FP.l2d vv)) .l))])) _
    refine own_back (fun t k => XS.ifYes X139.here hx rfl (pc0 := 93) (pc' := 98) rfl (hb hby at_93) rfl (Jvm.Free.XT.i0_eq_t (dcmpV_self (own_nnD vv) .l)) (by decide) (by decide) k) ?_
    show OwnGo p e below (T139.setTop (mkF m 98 #[.val (.long x1), .second, .val (.int p2), .val (.int p3), .val (.long vv), .second, .val (.int (p2 &&& (3 : Int32))), .val (.ref b103), .val (.ref b124), .val (.double (FP.l2d vv)), .second] [])) _
    refine own_back (fun t k => XS.dload X139.here hx rfl (hb hby at_98) rfl k) ?_
    show OwnGo p e below (T139.setTop (mkF m 100 #[.val (.long x1), .second, .val (.int p2), .val (.int p3), .val (.long vv), .second, .val (.int (p2 &&& (3 : Int32))), .val (.ref b103), .val (.ref b124), .val (.double (FP.l2d vv)), .second] [(.double (FP.l2d vv))])) _
    refine own_back (fun t k => XS.d2lS X139.here hx rfl (hb hby at_100) rfl (own_d2l hv1 hv2) k) ?_
    show OwnGo p e below (T139.setTop (mkF m 101 #[.val (.long x1), .second, .val (.int p2), .val (.int p3), .val (.long vv), .second, .val (.int (p2 &&& (3 : Int32))), .val (.ref b103), .val (.ref b124), .val (.double (FP.l2d vv)), .second] [(.long vv)])) _
    refine own_back (fun t k => XS.lload X139.here hx rfl (hb hby at_101) rfl k) ?_
    show OwnGo p e below (T139.setTop (mkF m 103 #[.val (.long x1), .second, .val (.int p2), .val (.int p3), .val (.long vv), .second, .val (.int (p2 &&& (3 : Int32))), .val (.ref b103), .val (.ref b124), .val (.double (FP.l2d vv)), .second] [(.long vv), (.long vv)])) _
    refine own_back (fun t k => XT.lcmp X139.here hx rfl (hb hby at_103) rfl k) ?_
    show OwnGo p e below (T139.setTop (mkF m 104 #[.val (.long x1), .second, .val (.int p2), .val (.int p3), .val (.long vv), .second, .val (.int (p2 &&& (3 : Int32))), .val (.ref b103), .val (.ref b124), .val (.double (FP.l2d vv)), .second] [(.int (XT.cmpL vv vv))])) _
    refine own_back (fun t k => XS.ifYes X139.here hx rfl (pc0 := 104) (pc' := 109) rfl (hb hby at_104) rfl (Jvm.Free.XT.ll_eq_t rfl) (by decide) (by decide) k) ?_
    show OwnGo p e below (T139.setTop (mkF m 109 #[.val (.long x1), .second, .val (.int p2), .val (.int p3), .val (.long vv), .second, .val (.int (p2 &&& (3 : Int32))), .val (.ref b103), .val (.ref b124), .val (.double (FP.l2d vv)), .second] [])) _
    refine own_back (fun t k => XS.aload X139.here hx rfl (hb hby at_109) rfl rfl k) ?_
    show OwnGo p e below (T139.setTop (mkF m 111 #[.val (.long x1), .second, .val (.int p2), .val (.int p3), .val (.long vv), .second, .val (.int (p2 &&& (3 : Int32))), .val (.ref b103), .val (.ref b124), .val (.double (FP.l2d vv)), .second] [(.ref b124)])) _
    refine own_back (fun t k => XS.dload X139.here hx rfl (hb hby at_111) rfl k) ?_
    show OwnGo p e below (T139.setTop (mkF m 113 #[.val (.long x1), .second, .val (.int p2), .val (.int p3), .val (.long vv), .second, .val (.int (p2 &&& (3 : Int32))), .val (.ref b103), .val (.ref b124), .val (.double (FP.l2d vv)), .second] [(.double (FP.l2d vv)), (.ref b124)])) _
    obtain ⟨_, _, ⟨T140, L140, k140, n140⟩, -, X140, ⟨Lc140, hQ140, l140, y140, z140⟩, st140⟩ := Jvm.LawKit.callS X139 hx (y := (⟨"com/example/sorted_set_patterns/sortedsetpatterns/Scores", "toValue", "(Ljava/lang/String;D)J"⟩ : MethodName)) hown (mvT hZ (hw _ (List.mem_of_getElem? (i := 37) rfl))) (mvT hZ (hw _ (List.mem_of_getElem? (i := 38) rfl))) (mvT hZ (hw _ (List.mem_of_getElem? (i := 33) rfl))) (mvT hZ (hw _ (List.mem_of_getElem? (i := 39) rfl))) (by decide) (own_backN (W := 0) (rm_tv l Z a0 hw [] b124 vv T133.heap n0 Zs136 hv1 hv2) hZ (hw _ (List.mem_of_getElem? (i := 39) rfl)) (hw _ (List.mem_of_getElem? (i := 33) rfl)) (by decide) (by decide)) (g := (mkF m 113 #[.val (.long x1), .second, .val (.int p2), .val (.int p3), .val (.long vv), .second, .val (.int (p2 &&& (3 : Int32))), .val (.ref b103), .val (.ref b124), .val (.double (FP.l2d vv)), .second] [(.double (FP.l2d vv)), (.ref b124)])) rfl (by rw [hml]; rfl) (argsL := [(.ref b124), (.double (FP.l2d vv))]) (rest := []) (lenOf lw_pd2 rfl) rfl (by show 2 * 0 + _ ≤ _; exact Nat.le_of_eq rfl) (hb hby at_113) (fun _ _ => ⟨rfl, hh139, Nat.le_of_ble_eq_true rfl, Nat.le_of_ble_eq_true rfl⟩)
    dsimp only [Pt.U, Pt.locs, Pt.cells, Pt.slots] at X140 l140 y140 z140 st140 hQ140
    subst l140 y140 z140
    obtain ⟨rfl, N140q, hh140⟩ := hQ140
    refine own_back st140 ?_
    have N140 := Fr.app N139 N140q
    show OwnGo p e below (T140.setTop (mkF m 116 #[.val (.long x1), .second, .val (.int p2), .val (.int p3), .val (.long vv), .second, .val (.int (p2 &&& (3 : Int32))), .val (.ref b103), .val (.ref b124), .val (.double (FP.l2d vv)), .second] [(.long vv)])) _
    refine own_back (fun t k => XS.lload X140.here hx rfl (hb hby at_116) rfl k) ?_
    show OwnGo p e below (T140.setTop (mkF m 118 #[.val (.long x1), .second, .val (.int p2), .val (.int p3), .val (.long vv), .second, .val (.int (p2 &&& (3 : Int32))), .val (.ref b103), .val (.ref b124), .val (.double (FP.l2d vv)), .second] [(.long vv), (.long vv)])) _
    refine own_back (fun t k => XT.lcmp X140.here hx rfl (hb hby at_118) rfl k) ?_
    show OwnGo p e below (T140.setTop (mkF m 119 #[.val (.long x1), .second, .val (.int p2), .val (.int p3), .val (.long vv), .second, .val (.int (p2 &&& (3 : Int32))), .val (.ref b103), .val (.ref b124), .val (.double (FP.l2d vv)), .second] [(.int (XT.cmpL vv vv))])) _
    refine own_back (fun t k => XS.ifNo X140.here hx rfl (hb hby at_119) rfl (Jvm.Free.XT.ll_ne_f rfl) k) ?_
    show OwnGo p e below (T140.setTop (mkF m 122 #[.val (.long x1), .second, .val (.int p2), .val (.int p3), .val (.long vv), .second, .val (.int (p2 &&& (3 : Int32))), .val (.ref b103), .val (.ref b124), .val (.double (FP.l2d vv)), .second] [])) _
    refine own_back (fun t k => XS.iconst X140.here hx rfl (hb hby at_122) k) ?_
    show OwnGo p e below (T140.setTop (mkF m 123 #[.val (.long x1), .second, .val (.int p2), .val (.int p3), .val (.long vv), .second, .val (.int (p2 &&& (3 : Int32))), .val (.ref b103), .val (.ref b124), .val (.double (FP.l2d vv)), .second] [(.int (1 : Int32))])) _
    refine own_back (fun t k => XS.goto X140.here hx rfl (pc0 := 123) (pc' := 127) rfl (hb hby at_123) (by decide) (by decide) k) ?_
    show OwnGo p e below (T140.setTop (mkF m 127 #[.val (.long x1), .second, .val (.int p2), .val (.int p3), .val (.long vv), .second, .val (.int (p2 &&& (3 : Int32))), .val (.ref b103), .val (.ref b124), .val (.double (FP.l2d vv)), .second] [(.int (1 : Int32))])) _
    refine own_retN X140 hx Bd.notSynchronized (t := .boolean) (z := (1 : Int32)) Bd.returns (by simp) rfl (hb hby at_127) hh140 (Nat.le_of_ble_eq_true rfl) (Nat.le_of_ble_eq_true rfl) ?_
    exact ⟨rfl, N140⟩
  · refine own_back (fun t k => XS.ifYes X0.here hx rfl (pc0 := 7) (pc' := 18) rfl (hb hby at_7) rfl (Jvm.Free.XT.i0_ne_t hc7_102) (by decide) (by decide) k) ?_
    show OwnGo p e below (s₁.setTop (mkF m 18 #[.val (.long x1), .second, .val (.int p2), .val (.int p3), .unset, .unset, .val (.int (p2 &&& (3 : Int32))), .unset, .unset, .unset, .unset] [])) _
    refine own_back (fun t k => XS.iload X0.here hx rfl (hb hby at_18) rfl k) ?_
    show OwnGo p e below (s₁.setTop (mkF m 20 #[.val (.long x1), .second, .val (.int p2), .val (.int p3), .unset, .unset, .val (.int (p2 &&& (3 : Int32))), .unset, .unset, .unset, .unset] [(.int (p2 &&& (3 : Int32)))])) _
    refine own_back (fun t k => XS.iconst X0.here hx rfl (hb hby at_20) k) ?_
    show OwnGo p e below (s₁.setTop (mkF m 21 #[.val (.long x1), .second, .val (.int p2), .val (.int p3), .unset, .unset, .val (.int (p2 &&& (3 : Int32))), .unset, .unset, .unset, .unset] [(.int (1 : Int32)), (.int (p2 &&& (3 : Int32)))])) _
    by_cases hc21_141 : (p2 &&& (3 : Int32)) = (1 : Int32)
    · refine own_back (fun t k => XS.icmpNo X0.here hx rfl (hb hby at_21) rfl (Jvm.Free.XT.ii_ne_f hc21_141) k) ?_
      show OwnGo p e below (s₁.setTop (mkF m 24 #[.val (.long x1), .second, .val (.int p2), .val (.int p3), .unset, .unset, .val (.int (p2 &&& (3 : Int32))), .unset, .unset, .unset, .unset] [])) _
      refine own_back (fun t k => X0.ldc2Long hx hown (mvT hZ (hw _ (List.mem_of_getElem? (i := 58) rfl))) (g := (mkF m 24 #[.val (.long x1), .second, .val (.int p2), .val (.int p3), .unset, .unset, .val (.int (p2 &&& (3 : Int32))), .unset, .unset, .unset, .unset] [])) rfl (hb hby at_24) t k) ?_
      show OwnGo p e below (s₁.setTop (mkF m 27 #[.val (.long x1), .second, .val (.int p2), .val (.int p3), .unset, .unset, .val (.int (p2 &&& (3 : Int32))), .unset, .unset, .unset, .unset] [(.long (-9007199254740992 : Int64))])) _
      refine own_back (fun t k => XS.lstore X0.here hx rfl (hb hby at_27) rfl (l' := #[.val (.long x1), .second, .val (.int p2), .val (.int p3), .val (.long (-9007199254740992 : Int64)), .second, .val (.int (p2 &&& (3 : Int32))), .unset, .unset, .unset, .unset]) rfl k) ?_
      show OwnGo p e below (s₁.setTop (mkF m 29 #[.val (.long x1), .second, .val (.int p2), .val (.int p3), .val (.long (-9007199254740992 : Int64)), .second, .val (.int (p2 &&& (3 : Int32))), .unset, .unset, .unset, .unset] [])) _
      refine own_back (fun t k => XS.goto X0.here hx rfl (pc0 := 29) (pc' := 39) rfl (hb hby at_29) (by decide) (by decide) k) ?_
      show OwnGo p e below (s₁.setTop (mkF m 39 #[.val (.long x1), .second, .val (.int p2), .val (.int p3), .val (.long (-9007199254740992 : Int64)), .second, .val (.int (p2 &&& (3 : Int32))), .unset, .unset, .unset, .unset] [])) _
      obtain ⟨vv, hvv⟩ : ∃ z : Int64, z = (-9007199254740992 : Int64) := ⟨_, rfl⟩
      rw [← hvv]
      show OwnGo p e below (s₁.setTop (mkF m 39 #[.val (.long x1), .second, .val (.int p2), .val (.int p3), .val (.long vv), .second, .val (.int (p2 &&& (3 : Int32))), .unset, .unset, .unset, .unset] [])) _
      obtain ⟨hv1, hv2⟩ : -9007199254740992 ≤ vv.toInt ∧ vv.toInt ≤ 9007199254740992 := by rw [hvv]; decide
      show OwnGo p e below (s₁.setTop (mkF m 39 #[.val (.long x1), .second, .val (.int p2), .val (.int p3), .val (.long vv), .second, .val (.int (p2 &&& (3 : Int32))), .unset, .unset, .unset, .unset] [])) _
      refine own_back (fun t k => XS.iconst X0.here hx rfl (hb hby at_39) k) ?_
      show OwnGo p e below (s₁.setTop (mkF m 40 #[.val (.long x1), .second, .val (.int p2), .val (.int p3), .val (.long vv), .second, .val (.int (p2 &&& (3 : Int32))), .unset, .unset, .unset, .unset] [(.int (2 : Int32))])) _
      obtain ⟨T142, h142, k142, X142, e142, E142, A142, st142⟩ := newP X0 hx hZ (hw _ (List.mem_of_getElem? (i := 1) rfl)) e0 (g := (mkF m 40 #[.val (.long x1), .second, .val (.int p2), .val (.int p3), .val (.long vv), .second, .val (.int (p2 &&& (3 : Int32))), .unset, .unset, .unset, .unset] [(.int (2 : Int32))])) rfl (hb hby at_40) rfl (by decide) (cap := 2) (by decide) (by decide) (Nat.le_of_ble_eq_true rfl) (Nat.le_of_ble_eq_true rfl)
      obtain ⟨b142, g142⟩ : ∃ z, z = h0.size := ⟨_, rfl⟩
      have ge143 : n0 ≤ b142 := Nat.le_trans Z0 (Nat.le_of_eq g142.symm)
      have sz144 : h0.size ≤ b142 := Nat.le_trans KP0.1 (Nat.le_of_eq g142.symm)
      rw [← g142] at A142 st142
      have O145 := OL.ext E142
      have KP146 := KP0.ext E142
      have Zs147 := Nat.le_trans Z0 E142.1
      have V148 : Arv Z h142 b142 k142 .char (2 : Int32) [(.int (0 : Int32)), (.int (0 : Int32))] (.int (0 : Int32)) := (Arv.new A142 (by decide)).pad (pad_rep [] (.int (0 : Int32)) 2)
      refine own_back st142 ?_
      show OwnGo p e below (T142.setTop (mkF m 42 #[.val (.long x1), .second, .val (.int p2), .val (.int p3), .val (.long vv), .second, .val (.int (p2 &&& (3 : Int32))), .unset, .unset, .unset, .unset] [(.ref b142)])) _
      refine own_back (fun t k => XS.astore X142.here hx rfl (hb hby at_42) rfl rfl (l' := #[.val (.long x1), .second, .val (.int p2), .val (.int p3), .val (.long vv), .second, .val (.int (p2 &&& (3 : Int32))), .val (.ref b142), .unset, .unset, .unset]) rfl k) ?_
      show OwnGo p e below (T142.setTop (mkF m 44 #[.val (.long x1), .second, .val (.int p2), .val (.int p3), .val (.long vv), .second, .val (.int (p2 &&& (3 : Int32))), .val (.ref b142), .unset, .unset, .unset] [])) _
      refine own_back (fun t k => XS.aload X142.here hx rfl (hb hby at_44) rfl rfl k) ?_
      show OwnGo p e below (T142.setTop (mkF m 46 #[.val (.long x1), .second, .val (.int p2), .val (.int p3), .val (.long vv), .second, .val (.int (p2 &&& (3 : Int32))), .val (.ref b142), .unset, .unset, .unset] [(.ref b142)])) _
      refine own_back (fun t k => XS.iconst X142.here hx rfl (hb hby at_46) k) ?_
      show OwnGo p e below (T142.setTop (mkF m 47 #[.val (.long x1), .second, .val (.int p2), .val (.int p3), .val (.long vv), .second, .val (.int (p2 &&& (3 : Int32))), .val (.ref b142), .unset, .unset, .unset] [(.int (0 : Int32)), (.ref b142)])) _
      refine own_back (fun t k => XS.iloadN X142.here hx rfl (hb hby at_47) rfl k) ?_
      show OwnGo p e below (T142.setTop (mkF m 48 #[.val (.long x1), .second, .val (.int p2), .val (.int p3), .val (.long vv), .second, .val (.int (p2 &&& (3 : Int32))), .val (.ref b142), .unset, .unset, .unset] [(.int p3), (.int (0 : Int32)), (.ref b142)])) _
      refine own_back (fun t k => XS.sipush X142.here hx rfl (hb hby at_48) k) ?_
      show OwnGo p e below (T142.setTop (mkF m 51 #[.val (.long x1), .second, .val (.int p2), .val (.int p3), .val (.long vv), .second, .val (.int (p2 &&& (3 : Int32))), .val (.ref b142), .unset, .unset, .unset] [(.int (255 : Int32)), (.int p3), (.int (0 : Int32)), (.ref b142)])) _
      refine own_back (fun t k => XS.iand X142.here hx rfl (hb hby at_51) rfl k) ?_
      show OwnGo p e below (T142.setTop (mkF m 52 #[.val (.long x1), .second, .val (.int p2), .val (.int p3), .val (.long vv), .second, .val (.int (p2 &&& (3 : Int32))), .val (.ref b142), .unset, .unset, .unset] [(.int (p3 &&& (255 : Int32))), (.int (0 : Int32)), (.ref b142)])) _
      refine own_back (fun t k => XS.i2c X142.here hx rfl (hb hby at_52) rfl k) ?_
      show OwnGo p e below (T142.setTop (mkF m 53 #[.val (.long x1), .second, .val (.int p2), .val (.int p3), .val (.long vv), .second, .val (.int (p2 &&& (3 : Int32))), .val (.ref b142), .unset, .unset, .unset] [(.int (p3 &&& (255 : Int32)).toUInt32.toUInt16.toUInt32.toInt32), (.int (0 : Int32)), (.ref b142)])) _
      obtain ⟨c149, A149, q149, S149, M149, H149, U149⟩ := id V148
      obtain ⟨T150, h150, X150, e150, W150, st150⟩ := stC X142 hx hZ e142 A149 (j := (0 : Int32)) (inb_of S149 ⟨by decide, by decide⟩) (g := (mkF m 53 #[.val (.long x1), .second, .val (.int p2), .val (.int p3), .val (.long vv), .second, .val (.int (p2 &&& (3 : Int32))), .val (.ref b142), .unset, .unset, .unset] [(.int (p3 &&& (255 : Int32)).toUInt32.toUInt16.toUInt32.toInt32), (.int (0 : Int32)), (.ref b142)])) rfl rfl (hb hby at_53)
      have O151 := O145.wr W150 ge143
      have KP152 := KP146.wr W150 (Or.inr sz144)
      have Zs153 := Nat.le_trans Zs147 (Keep.of_wr W150).1
      have V154 : Arv Z h150 b142 k142 .char (2 : Int32) [(.int (nar .char (p3 &&& (255 : Int32)).toUInt32.toUInt16.toUInt32.toInt32)), (.int (0 : Int32))] (.int (0 : Int32)) := Arv.set A149 q149 S149 M149 H149 U149 (fits_nar_char _) W150 0 rfl (Nat.le_of_ble_eq_true rfl)
      have N155 := Fr.snoc X150 N0 ge143
      refine own_back st150 ?_
      show OwnGo p e below (T150.setTop (mkF m 54 #[.val (.long x1), .second, .val (.int p2), .val (.int p3), .val (.long vv), .second, .val (.int (p2 &&& (3 : Int32))), .val (.ref b142), .unset, .unset, .unset] [])) _
      refine own_back (fun t k => XS.aload X150.here hx rfl (hb hby at_54) rfl rfl k) ?_
      show OwnGo p e below (T150.setTop (mkF m 56 #[.val (.long x1), .second, .val (.int p2), .val (.int p3), .val (.long vv), .second, .val (.int (p2 &&& (3 : Int32))), .val (.ref b142), .unset, .unset, .unset] [(.ref b142)])) _
      refine own_back (fun t k => XS.iconst X150.here hx rfl (hb hby at_56) k) ?_
      show OwnGo p e below (T150.setTop (mkF m 57 #[.val (.long x1), .second, .val (.int p2), .val (.int p3), .val (.long vv), .second, .val (.int (p2 &&& (3 : Int32))), .val (.ref b142), .unset, .unset, .unset] [(.int (1 : Int32)), (.ref b142)])) _
      refine own_back (fun t k => XS.iloadN X150.here hx rfl (hb hby at_57) rfl k) ?_
      show OwnGo p e below (T150.setTop (mkF m 58 #[.val (.long x1), .second, .val (.int p2), .val (.int p3), .val (.long vv), .second, .val (.int (p2 &&& (3 : Int32))), .val (.ref b142), .unset, .unset, .unset] [(.int p3), (.int (1 : Int32)), (.ref b142)])) _
      refine own_back (fun t k => XS.bipush X150.here hx rfl (hb hby at_58) k) ?_
      show OwnGo p e below (T150.setTop (mkF m 60 #[.val (.long x1), .second, .val (.int p2), .val (.int p3), .val (.long vv), .second, .val (.int (p2 &&& (3 : Int32))), .val (.ref b142), .unset, .unset, .unset] [(.int (8 : Int32)), (.int p3), (.int (1 : Int32)), (.ref b142)])) _
      refine own_back (fun t k => XS.iushr X150.here hx rfl (hb hby at_60) rfl k) ?_
      show OwnGo p e below (T150.setTop (mkF m 61 #[.val (.long x1), .second, .val (.int p2), .val (.int p3), .val (.long vv), .second, .val (.int (p2 &&& (3 : Int32))), .val (.ref b142), .unset, .unset, .unset] [(.int ((p3.toUInt32 >>> ((8 : Int32) &&& 31).toUInt32).toInt32)), (.int (1 : Int32)), (.ref b142)])) _
      refine own_back (fun t k => XS.sipush X150.here hx rfl (hb hby at_61) k) ?_
      show OwnGo p e below (T150.setTop (mkF m 64 #[.val (.long x1), .second, .val (.int p2), .val (.int p3), .val (.long vv), .second, .val (.int (p2 &&& (3 : Int32))), .val (.ref b142), .unset, .unset, .unset] [(.int (255 : Int32)), (.int ((p3.toUInt32 >>> ((8 : Int32) &&& 31).toUInt32).toInt32)), (.int (1 : Int32)), (.ref b142)])) _
      refine own_back (fun t k => XS.iand X150.here hx rfl (hb hby at_64) rfl k) ?_
      show OwnGo p e below (T150.setTop (mkF m 65 #[.val (.long x1), .second, .val (.int p2), .val (.int p3), .val (.long vv), .second, .val (.int (p2 &&& (3 : Int32))), .val (.ref b142), .unset, .unset, .unset] [(.int (((p3.toUInt32 >>> ((8 : Int32) &&& 31).toUInt32).toInt32) &&& (255 : Int32))), (.int (1 : Int32)), (.ref b142)])) _
      refine own_back (fun t k => XS.i2c X150.here hx rfl (hb hby at_65) rfl k) ?_
      show OwnGo p e below (T150.setTop (mkF m 66 #[.val (.long x1), .second, .val (.int p2), .val (.int p3), .val (.long vv), .second, .val (.int (p2 &&& (3 : Int32))), .val (.ref b142), .unset, .unset, .unset] [(.int (((p3.toUInt32 >>> ((8 : Int32) &&& 31).toUInt32).toInt32) &&& (255 : Int32)).toUInt32.toUInt16.toUInt32.toInt32), (.int (1 : Int32)), (.ref b142)])) _
      obtain ⟨c156, A156, q156, S156, M156, H156, U156⟩ := id V154
      obtain ⟨T157, h157, X157, e157, W157, st157⟩ := stC X150 hx hZ e150 A156 (j := (1 : Int32)) (inb_of S156 ⟨by decide, by decide⟩) (g := (mkF m 66 #[.val (.long x1), .second, .val (.int p2), .val (.int p3), .val (.long vv), .second, .val (.int (p2 &&& (3 : Int32))), .val (.ref b142), .unset, .unset, .unset] [(.int (((p3.toUInt32 >>> ((8 : Int32) &&& 31).toUInt32).toInt32) &&& (255 : Int32)).toUInt32.toUInt16.toUInt32.toInt32), (.int (1 : Int32)), (.ref b142)])) rfl rfl (hb hby at_66)
      have O158 := O151.wr W157 ge143
      have KP159 := KP152.wr W157 (Or.inr sz144)
      have Zs160 := Nat.le_trans Zs153 (Keep.of_wr W157).1
      have V161 : Arv Z h157 b142 k142 .char (2 : Int32) [(.int (nar .char (p3 &&& (255 : Int32)).toUInt32.toUInt16.toUInt32.toInt32)), (.int (nar .char (((p3.toUInt32 >>> ((8 : Int32) &&& 31).toUInt32).toInt32) &&& (255 : Int32)).toUInt32.toUInt16.toUInt32.toInt32))] (.int (0 : Int32)) := Arv.set A156 q156 S156 M156 H156 U156 (fits_nar_char _) W157 1 rfl (Nat.le_of_ble_eq_true rfl)
      have N162 := Fr.snoc X157 N155 ge143
      refine own_back st157 ?_
      show OwnGo p e below (T157.setTop (mkF m 67 #[.val (.long x1), .second, .val (.int p2), .val (.int p3), .val (.long vv), .second, .val (.int (p2 &&& (3 : Int32))), .val (.ref b142), .unset, .unset, .unset] [])) _
      obtain ⟨T163, h163, X163, e163, E163, A163, D163, -, st163⟩ := newO X157 hx hZ hown (hw _ (List.mem_of_getElem? (i := 2) rfl)) (hw _ (List.mem_of_getElem? (i := 3) rfl)) (hw _ (List.mem_of_getElem? (i := 4) rfl)) e157 (g := (mkF m 67 #[.val (.long x1), .second, .val (.int p2), .val (.int p3), .val (.long vv), .second, .val (.int (p2 &&& (3 : Int32))), .val (.ref b142), .unset, .unset, .unset] [])) rfl (hb hby at_67) (Nat.le_of_ble_eq_true rfl) (Nat.le_of_ble_eq_true rfl)
      obtain ⟨b163, g163⟩ : ∃ z, z = h157.size := ⟨_, rfl⟩
      have ge164 : n0 ≤ b163 := Nat.le_trans Zs160 (Nat.le_of_eq g163.symm)
      have sz165 : h0.size ≤ b163 := Nat.le_trans KP159.1 (Nat.le_of_eq g163.symm)
      rw [← g163] at A163 D163 st163
      have O166 := O158.ext E163
      have KP167 := KP159.ext E163
      have Zs168 := Nat.le_trans Zs160 E163.1
      have f169 := V161.ext E163
      have F170 : Fld Z h163 b163 "java/lang/String" "coder" "B" (.int (0 : Int32)) := D163 (Or.inr (hw _ (List.mem_of_getElem? (i := 28) rfl))) (ty := .byte) (by decide)
      have F171 : Fld Z h163 b163 "java/lang/String" "value" "[B" .null := D163 (Or.inr (hw _ (List.mem_of_getElem? (i := 30) rfl))) (ty := (.array .byte)) (by decide)
      refine own_back st163 ?_
      show OwnGo p e below (T163.setTop (mkF m 70 #[.val (.long x1), .second, .val (.int p2), .val (.int p3), .val (.long vv), .second, .val (.int (p2 &&& (3 : Int32))), .val (.ref b142), .unset, .unset, .unset] [(.ref b163)])) _
      refine own_back (fun t k => XS.dup X163.here hx rfl (hb hby at_70) rfl rfl k) ?_
      show OwnGo p e below (T163.setTop (mkF m 71 #[.val (.long x1), .second, .val (.int p2), .val (.int p3), .val (.long vv), .second, .val (.int (p2 &&& (3 : Int32))), .val (.ref b142), .unset, .unset, .unset] [(.ref b163), (.ref b163)])) _
      refine own_back (fun t k => XS.aload X163.here hx rfl (hb hby at_71) rfl rfl k) ?_
      show OwnGo p e below (T163.setTop (mkF m 73 #[.val (.long x1), .second, .val (.int p2), .val (.int p3), .val (.long vv), .second, .val (.int (p2 &&& (3 : Int32))), .val (.ref b142), .unset, .unset, .unset] [(.ref b142), (.ref b163), (.ref b163)])) _
      obtain ⟨_, _, ⟨T172, L172, k172, n172⟩, -, X172, ⟨Lc172, hQ172, l172, y172, z172⟩, st172⟩ := X163.specialBack hx (y := (⟨"java/lang/String", "<init>", "([C)V"⟩ : MethodName)) rfl hown (mvT hZ (hw _ (List.mem_of_getElem? (i := 5) rfl))) (mvT hZ (hw _ (List.mem_of_getElem? (i := 6) rfl))) (mvT hZ (hw _ (List.mem_of_getElem? (i := 7) rfl))) (by decide) (StrChars.Road.backV (W := 1) hZ (own_wV hw) (kI := 4) (hw _ (List.mem_of_getElem? (i := 3) rfl)) (cs := ([(nar .char (p3 &&& (255 : Int32)).toUInt32.toUInt16.toUInt32.toInt32), (nar .char (((p3.toUInt32 >>> ((8 : Int32) &&& 31).toUInt32).toInt32) &&& (255 : Int32)).toUInt32.toUInt16.toUInt32.toInt32)] : List Int32)) (bs := ([(nar .char (p3 &&& (255 : Int32)).toUInt32.toUInt16.toUInt32.toInt32), (nar .char (((p3.toUInt32 >>> ((8 : Int32) &&& 31).toUInt32).toInt32) &&& (255 : Int32)).toUInt32.toUInt16.toUInt32.toInt32)] : List Int32).map (fun c => c.toInt8.toInt32)) (n := 2) ge164 Zs168 A163 F171 F170 f169 (SC.ext O166.2) hcz rfl rfl (by decide) (by decide) (own_allS (own_c255 _) (own_allS (own_c255 _) own_all0)) rfl (by decide) (by decide)) (g := (mkF m 73 #[.val (.long x1), .second, .val (.int p2), .val (.int p3), .val (.long vv), .second, .val (.int (p2 &&& (3 : Int32))), .val (.ref b142), .unset, .unset, .unset] [(.ref b142), (.ref b163), (.ref b163)])) rfl (by rw [hml]; rfl) (Steps.refl _) (a := b163) (argsL := [(.ref b142)]) (rest := [(.ref b163)]) (lenOf lw_pd0 rfl) rfl (by show 2 * 0 + _ ≤ _; exact Nat.le_of_eq rfl) (hb hby at_73) (fun _ _ => ⟨rfl, e163, Nat.le_of_ble_eq_true rfl, Nat.le_of_ble_eq_true rfl⟩)
      dsimp only [Pt.U, Pt.locs, Pt.cells, Pt.slots] at X172 l172 y172 z172 st172 hQ172
      subst l172 y172 z172
      obtain ⟨rfl, N172q, K172, EX172, C172, t172, kb172, gt172, zt172, nt172, FV172, AV172⟩ := hQ172
      refine own_seq st172 ?_
      have N172 := Fr.app N162 N172q
      have O173 := O166.keep K172 (allS ge164 all0)
      have KP174 := KP167.trans K172 (allS (Or.inr sz165) all0)
      have Zs175 := Nat.le_trans Zs168 K172.1
      have f176 := f169.keep K172 (ninS (Nat.ne_of_lt (Nat.lt_of_lt_of_le V161.lt (Nat.le_of_eq g163.symm))) nin0)
      have f177 := A163.keep K172
      show OwnGo p e below (T172.setTop (mkF m 76 #[.val (.long x1), .second, .val (.int p2), .val (.int p3), .val (.long vv), .second, .val (.int (p2 &&& (3 : Int32))), .val (.ref b142), .unset, .unset, .unset] [(.ref b163)])) _
      refine own_back (fun t k => XS.astore X172.here hx rfl (hb hby at_76) rfl rfl (l' := #[.val (.long x1), .second, .val (.int p2), .val (.int p3), .val (.long vv), .second, .val (.int (p2 &&& (3 : Int32))), .val (.ref b142), .val (.ref b163), .unset, .unset]) rfl k) ?_
      show OwnGo p e below (T172.setTop (mkF m 78 #[.val (.long x1), .second, .val (.int p2), .val (.int p3), .val (.long vv), .second, .val (.int (p2 &&& (3 : Int32))), .val (.ref b142), .val (.ref b163), .unset, .unset] [])) _
      refine own_back (fun t k => XS.aload X172.here hx rfl (hb hby at_78) rfl rfl k) ?_
      show OwnGo p e below (T172.setTop (mkF m 80 #[.val (.long x1), .second, .val (.int p2), .val (.int p3), .val (.long vv), .second, .val (.int (p2 &&& (3 : Int32))), .val (.ref b142), .val (.ref b163), .unset, .unset] [(.ref b163)])) _
      refine own_back (fun t k => XS.lload X172.here hx rfl (hb hby at_80) rfl k) ?_
      show OwnGo p e below (T172.setTop (mkF m 82 #[.val (.long x1), .second, .val (.int p2), .val (.int p3), .val (.long vv), .second, .val (.int (p2 &&& (3 : Int32))), .val (.ref b142), .val (.ref b163), .unset, .unset] [(.long vv), (.ref b163)])) _
      obtain ⟨_, _, ⟨T178, L178, k178, n178⟩, -, X178, ⟨Lc178, hQ178, l178, y178, z178⟩, st178⟩ := Jvm.LawKit.callS X172 hx (y := (⟨"com/example/sorted_set_patterns/sortedsetpatterns/Scores", "toScore", "(Ljava/lang/String;J)D"⟩ : MethodName)) hown (mvT hZ (hw _ (List.mem_of_getElem? (i := 31) rfl))) (mvT hZ (hw _ (List.mem_of_getElem? (i := 32) rfl))) (mvT hZ (hw _ (List.mem_of_getElem? (i := 33) rfl))) (mvT hZ (hw _ (List.mem_of_getElem? (i := 34) rfl))) (by decide) (own_backN (W := 0) (rm_ts l Z a0 hw [] b163 vv T172.heap n0 Zs175 hv1 hv2) hZ (hw _ (List.mem_of_getElem? (i := 34) rfl)) (hw _ (List.mem_of_getElem? (i := 33) rfl)) (by decide) (by decide)) (g := (mkF m 82 #[.val (.long x1), .second, .val (.int p2), .val (.int p3), .val (.long vv), .second, .val (.int (p2 &&& (3 : Int32))), .val (.ref b142), .val (.ref b163), .unset, .unset] [(.long vv), (.ref b163)])) rfl (by rw [hml]; rfl) (argsL := [(.ref b163), (.long vv)]) (rest := []) (lenOf lw_pd1 rfl) rfl (by show 2 * 0 + _ ≤ _; exact Nat.le_of_eq rfl) (hb hby at_82) (fun _ _ => ⟨rfl, rfl, Nat.le_of_ble_eq_true rfl, Nat.le_of_ble_eq_true rfl⟩)
      dsimp only [Pt.U, Pt.locs, Pt.cells, Pt.slots] at X178 l178 y178 z178 st178 hQ178
      subst l178 y178 z178
      obtain ⟨rfl, N178q, hh178⟩ := hQ178
      refine own_back st178 ?_
      have N178 := Fr.app N172 N178q
      show OwnGo p e below (T178.setTop (mkF m 85 #[.val (.long x1), .second, .val (.int p2), .val (.int p3), .val (.long vv), .second, .val (.int (p2 &&& (3 : Int32))), .val (.ref b142), .val (.ref b163), .unset, .unset] [(.double (FP.l2d vv))])) _
      refine own_back (fun t k => XS.dstore X178.here hx rfl (hb hby at_85) rfl (l' := #[.val (.long x1), .second, .val (.int p2), .val (.int p3), .val (.long vv), .second, .val (.int (p2 &&& (3 : Int32))), .val (.ref b142), .val (.ref b163), .val (.double (FP.l2d vv)), .second]) rfl k) ?_
      show OwnGo p e below (T178.setTop (mkF m 87 #[.val (.long x1), .second, .val (.int p2), .val (.int p3), .val (.long vv), .second, .val (.int (p2 &&& (3 : Int32))), .val (.ref b142), .val (.ref b163), .val (.double (FP.l2d vv)), .second] [])) _
      refine own_back (fun t k => XS.dload X178.here hx rfl (hb hby at_87) rfl k) ?_
      show OwnGo p e below (T178.setTop (mkF m 89 #[.val (.long x1), .second, .val (.int p2), .val (.int p3), .val (.long vv), .second, .val (.int (p2 &&& (3 : Int32))), .val (.ref b142), .val (.ref b163), .val (.double (FP.l2d vv)), .second] [(.double (FP.l2d vv))])) _
      refine own_back (fun t k => XS.lload X178.here hx rfl (hb hby at_89) rfl k) ?_
      show OwnGo p e below (T178.setTop (mkF m 91 #[.val (.long x1), .second, .val (.int p2), .val (.int p3), .val (.long vv), .second, .val (.int (p2 &&& (3 : Int32))), .val (.ref b142), .val (.ref b163), .val (.double (FP.l2d vv)), .second] [(.long vv), (.double (FP.l2d vv))])) _
      refine own_back (fun t k => XS.l2dS X178.here hx rfl (hb hby at_91) rfl rfl k) ?_
      show OwnGo p e below (T178.setTop (mkF m 92 #[.val (.long x1), .second, .val (.int p2), .val (.int p3), .val (.long vv), .second, .val (.int (p2 &&& (3 : Int32))), .val (.ref b142), .val (.ref b163), .val (.double (FP.l2d vv)), .second] [(.double (FP.l2d vv)), (.double (FP.l2d vv))])) _
      refine own_back (fun t k => XS.dcmpS X178.here hx rfl (hb hby at_92) rfl rfl k) ?_
      show OwnGo p e below (T178.setTop (mkF m 93 #[.val (.long x1), .second, .val (.int p2), .val (.int p3), .val (.long vv), .second, .val (.int (p2 &&& (3 : Int32))), .val (.ref b142), .val (.ref b163), .val (.double (FP.l2d vv)), .second] [(.int (cmpValue (FP.dcmp (FP.l2d vv) (FP.l2d vv)) .l))])) _
      refine own_back (fun t k => XS.ifYes X178.here hx rfl (pc0 := 93) (pc' := 98) rfl (hb hby at_93) rfl (Jvm.Free.XT.i0_eq_t (dcmpV_self (own_nnD vv) .l)) (by decide) (by decide) k) ?_
      show OwnGo p e below (T178.setTop (mkF m 98 #[.val (.long x1), .second, .val (.int p2), .val (.int p3), .val (.long vv), .second, .val (.int (p2 &&& (3 : Int32))), .val (.ref b142), .val (.ref b163), .val (.double (FP.l2d vv)), .second] [])) _
      refine own_back (fun t k => XS.dload X178.here hx rfl (hb hby at_98) rfl k) ?_
      show OwnGo p e below (T178.setTop (mkF m 100 #[.val (.long x1), .second, .val (.int p2), .val (.int p3), .val (.long vv), .second, .val (.int (p2 &&& (3 : Int32))), .val (.ref b142), .val (.ref b163), .val (.double (FP.l2d vv)), .second] [(.double (FP.l2d vv))])) _
      refine own_back (fun t k => XS.d2lS X178.here hx rfl (hb hby at_100) rfl (own_d2l hv1 hv2) k) ?_
      show OwnGo p e below (T178.setTop (mkF m 101 #[.val (.long x1), .second, .val (.int p2), .val (.int p3), .val (.long vv), .second, .val (.int (p2 &&& (3 : Int32))), .val (.ref b142), .val (.ref b163), .val (.double (FP.l2d vv)), .second] [(.long vv)])) _
      refine own_back (fun t k => XS.lload X178.here hx rfl (hb hby at_101) rfl k) ?_
      show OwnGo p e below (T178.setTop (mkF m 103 #[.val (.long x1), .second, .val (.int p2), .val (.int p3), .val (.long vv), .second, .val (.int (p2 &&& (3 : Int32))), .val (.ref b142), .val (.ref b163), .val (.double (FP.l2d vv)), .second] [(.long vv), (.long vv)])) _
      refine own_back (fun t k => XT.lcmp X178.here hx rfl (hb hby at_103) rfl k) ?_
      show OwnGo p e below (T178.setTop (mkF m 104 #[.val (.long x1), .second, .val (.int p2), .val (.int p3), .val (.long vv), .second, .val (.int (p2 &&& (3 : Int32))), .val (.ref b142), .val (.ref b163), .val (.double (FP.l2d vv)), .second] [(.int (XT.cmpL vv vv))])) _
      refine own_back (fun t k => XS.ifYes X178.here hx rfl (pc0 := 104) (pc' := 109) rfl (hb hby at_104) rfl (Jvm.Free.XT.ll_eq_t rfl) (by decide) (by decide) k) ?_
      show OwnGo p e below (T178.setTop (mkF m 109 #[.val (.long x1), .second, .val (.int p2), .val (.int p3), .val (.long vv), .second, .val (.int (p2 &&& (3 : Int32))), .val (.ref b142), .val (.ref b163), .val (.double (FP.l2d vv)), .second] [])) _
      refine own_back (fun t k => XS.aload X178.here hx rfl (hb hby at_109) rfl rfl k) ?_
      show OwnGo p e below (T178.setTop (mkF m 111 #[.val (.long x1), .second, .val (.int p2), .val (.int p3), .val (.long vv), .second, .val (.int (p2 &&& (3 : Int32))), .val (.ref b142), .val (.ref b163), .val (.double (FP.l2d vv)), .second] [(.ref b163)])) _
      refine own_back (fun t k => XS.dload X178.here hx rfl (hb hby at_111) rfl k) ?_
      show OwnGo p e below (T178.setTop (mkF m 113 #[.val (.long x1), .second, .val (.int p2), .val (.int p3), .val (.long vv), .second, .val (.int (p2 &&& (3 : Int32))), .val (.ref b142), .val (.ref b163), .val (.double (FP.l2d vv)), .second] [(.double (FP.l2d vv)), (.ref b163)])) _
      obtain ⟨_, _, ⟨T179, L179, k179, n179⟩, -, X179, ⟨Lc179, hQ179, l179, y179, z179⟩, st179⟩ := Jvm.LawKit.callS X178 hx (y := (⟨"com/example/sorted_set_patterns/sortedsetpatterns/Scores", "toValue", "(Ljava/lang/String;D)J"⟩ : MethodName)) hown (mvT hZ (hw _ (List.mem_of_getElem? (i := 37) rfl))) (mvT hZ (hw _ (List.mem_of_getElem? (i := 38) rfl))) (mvT hZ (hw _ (List.mem_of_getElem? (i := 33) rfl))) (mvT hZ (hw _ (List.mem_of_getElem? (i := 39) rfl))) (by decide) (own_backN (W := 0) (rm_tv l Z a0 hw [] b163 vv T172.heap n0 Zs175 hv1 hv2) hZ (hw _ (List.mem_of_getElem? (i := 39) rfl)) (hw _ (List.mem_of_getElem? (i := 33) rfl)) (by decide) (by decide)) (g := (mkF m 113 #[.val (.long x1), .second, .val (.int p2), .val (.int p3), .val (.long vv), .second, .val (.int (p2 &&& (3 : Int32))), .val (.ref b142), .val (.ref b163), .val (.double (FP.l2d vv)), .second] [(.double (FP.l2d vv)), (.ref b163)])) rfl (by rw [hml]; rfl) (argsL := [(.ref b163), (.double (FP.l2d vv))]) (rest := []) (lenOf lw_pd2 rfl) rfl (by show 2 * 0 + _ ≤ _; exact Nat.le_of_eq rfl) (hb hby at_113) (fun _ _ => ⟨rfl, hh178, Nat.le_of_ble_eq_true rfl, Nat.le_of_ble_eq_true rfl⟩)
      dsimp only [Pt.U, Pt.locs, Pt.cells, Pt.slots] at X179 l179 y179 z179 st179 hQ179
      subst l179 y179 z179
      obtain ⟨rfl, N179q, hh179⟩ := hQ179
      refine own_back st179 ?_
      have N179 := Fr.app N178 N179q
      show OwnGo p e below (T179.setTop (mkF m 116 #[.val (.long x1), .second, .val (.int p2), .val (.int p3), .val (.long vv), .second, .val (.int (p2 &&& (3 : Int32))), .val (.ref b142), .val (.ref b163), .val (.double (FP.l2d vv)), .second] [(.long vv)])) _
      refine own_back (fun t k => XS.lload X179.here hx rfl (hb hby at_116) rfl k) ?_
      show OwnGo p e below (T179.setTop (mkF m 118 #[.val (.long x1), .second, .val (.int p2), .val (.int p3), .val (.long vv), .second, .val (.int (p2 &&& (3 : Int32))), .val (.ref b142), .val (.ref b163), .val (.double (FP.l2d vv)), .second] [(.long vv), (.long vv)])) _
      refine own_back (fun t k => XT.lcmp X179.here hx rfl (hb hby at_118) rfl k) ?_
      show OwnGo p e below (T179.setTop (mkF m 119 #[.val (.long x1), .second, .val (.int p2), .val (.int p3), .val (.long vv), .second, .val (.int (p2 &&& (3 : Int32))), .val (.ref b142), .val (.ref b163), .val (.double (FP.l2d vv)), .second] [(.int (XT.cmpL vv vv))])) _
      refine own_back (fun t k => XS.ifNo X179.here hx rfl (hb hby at_119) rfl (Jvm.Free.XT.ll_ne_f rfl) k) ?_
      show OwnGo p e below (T179.setTop (mkF m 122 #[.val (.long x1), .second, .val (.int p2), .val (.int p3), .val (.long vv), .second, .val (.int (p2 &&& (3 : Int32))), .val (.ref b142), .val (.ref b163), .val (.double (FP.l2d vv)), .second] [])) _
      refine own_back (fun t k => XS.iconst X179.here hx rfl (hb hby at_122) k) ?_
      show OwnGo p e below (T179.setTop (mkF m 123 #[.val (.long x1), .second, .val (.int p2), .val (.int p3), .val (.long vv), .second, .val (.int (p2 &&& (3 : Int32))), .val (.ref b142), .val (.ref b163), .val (.double (FP.l2d vv)), .second] [(.int (1 : Int32))])) _
      refine own_back (fun t k => XS.goto X179.here hx rfl (pc0 := 123) (pc' := 127) rfl (hb hby at_123) (by decide) (by decide) k) ?_
      show OwnGo p e below (T179.setTop (mkF m 127 #[.val (.long x1), .second, .val (.int p2), .val (.int p3), .val (.long vv), .second, .val (.int (p2 &&& (3 : Int32))), .val (.ref b142), .val (.ref b163), .val (.double (FP.l2d vv)), .second] [(.int (1 : Int32))])) _
      refine own_retN X179 hx Bd.notSynchronized (t := .boolean) (z := (1 : Int32)) Bd.returns (by simp) rfl (hb hby at_127) hh179 (Nat.le_of_ble_eq_true rfl) (Nat.le_of_ble_eq_true rfl) ?_
      exact ⟨rfl, N179⟩
    · refine own_back (fun t k => XS.icmpYes X0.here hx rfl (pc0 := 21) (pc' := 32) rfl (hb hby at_21) rfl (Jvm.Free.XT.ii_ne_t hc21_141) (by decide) (by decide) k) ?_
      show OwnGo p e below (s₁.setTop (mkF m 32 #[.val (.long x1), .second, .val (.int p2), .val (.int p3), .unset, .unset, .val (.int (p2 &&& (3 : Int32))), .unset, .unset, .unset, .unset] [])) _
      refine own_back (fun t k => XS.lloadN X0.here hx rfl (hb hby at_32) rfl k) ?_
      show OwnGo p e below (s₁.setTop (mkF m 33 #[.val (.long x1), .second, .val (.int p2), .val (.int p3), .unset, .unset, .val (.int (p2 &&& (3 : Int32))), .unset, .unset, .unset, .unset] [(.long x1)])) _
      refine own_back (fun t k => X0.ldc2Long hx hown (mvT hZ (hw _ (List.mem_of_getElem? (i := 0) rfl))) (g := (mkF m 33 #[.val (.long x1), .second, .val (.int p2), .val (.int p3), .unset, .unset, .val (.int (p2 &&& (3 : Int32))), .unset, .unset, .unset, .unset] [(.long x1)])) rfl (hb hby at_33) t k) ?_
      show OwnGo p e below (s₁.setTop (mkF m 36 #[.val (.long x1), .second, .val (.int p2), .val (.int p3), .unset, .unset, .val (.int (p2 &&& (3 : Int32))), .unset, .unset, .unset, .unset] [(.long (9007199254740993 : Int64)), (.long x1)])) _
      refine own_back (fun t k => own_lrem X0 hx rfl (hb hby at_36) rfl (by decide) k) ?_
      show OwnGo p e below (s₁.setTop (mkF m 37 #[.val (.long x1), .second, .val (.int p2), .val (.int p3), .unset, .unset, .val (.int (p2 &&& (3 : Int32))), .unset, .unset, .unset, .unset] [(.long (x1 % (9007199254740993 : Int64)))])) _
      refine own_back (fun t k => XS.lstore X0.here hx rfl (hb hby at_37) rfl (l' := #[.val (.long x1), .second, .val (.int p2), .val (.int p3), .val (.long (x1 % (9007199254740993 : Int64))), .second, .val (.int (p2 &&& (3 : Int32))), .unset, .unset, .unset, .unset]) rfl k) ?_
      show OwnGo p e below (s₁.setTop (mkF m 39 #[.val (.long x1), .second, .val (.int p2), .val (.int p3), .val (.long (x1 % (9007199254740993 : Int64))), .second, .val (.int (p2 &&& (3 : Int32))), .unset, .unset, .unset, .unset] [])) _
      obtain ⟨vv, hvv⟩ : ∃ z : Int64, z = (x1 % (9007199254740993 : Int64)) := ⟨_, rfl⟩
      rw [← hvv]
      show OwnGo p e below (s₁.setTop (mkF m 39 #[.val (.long x1), .second, .val (.int p2), .val (.int p3), .val (.long vv), .second, .val (.int (p2 &&& (3 : Int32))), .unset, .unset, .unset, .unset] [])) _
      obtain ⟨hv1, hv2⟩ : -9007199254740992 ≤ vv.toInt ∧ vv.toInt ≤ 9007199254740992 := by rw [hvv]; exact own_range _
      show OwnGo p e below (s₁.setTop (mkF m 39 #[.val (.long x1), .second, .val (.int p2), .val (.int p3), .val (.long vv), .second, .val (.int (p2 &&& (3 : Int32))), .unset, .unset, .unset, .unset] [])) _
      refine own_back (fun t k => XS.iconst X0.here hx rfl (hb hby at_39) k) ?_
      show OwnGo p e below (s₁.setTop (mkF m 40 #[.val (.long x1), .second, .val (.int p2), .val (.int p3), .val (.long vv), .second, .val (.int (p2 &&& (3 : Int32))), .unset, .unset, .unset, .unset] [(.int (2 : Int32))])) _
      obtain ⟨T180, h180, k180, X180, e180, E180, A180, st180⟩ := newP X0 hx hZ (hw _ (List.mem_of_getElem? (i := 1) rfl)) e0 (g := (mkF m 40 #[.val (.long x1), .second, .val (.int p2), .val (.int p3), .val (.long vv), .second, .val (.int (p2 &&& (3 : Int32))), .unset, .unset, .unset, .unset] [(.int (2 : Int32))])) rfl (hb hby at_40) rfl (by decide) (cap := 2) (by decide) (by decide) (Nat.le_of_ble_eq_true rfl) (Nat.le_of_ble_eq_true rfl)
      obtain ⟨b180, g180⟩ : ∃ z, z = h0.size := ⟨_, rfl⟩
      have ge181 : n0 ≤ b180 := Nat.le_trans Z0 (Nat.le_of_eq g180.symm)
      have sz182 : h0.size ≤ b180 := Nat.le_trans KP0.1 (Nat.le_of_eq g180.symm)
      rw [← g180] at A180 st180
      have O183 := OL.ext E180
      have KP184 := KP0.ext E180
      have Zs185 := Nat.le_trans Z0 E180.1
      have V186 : Arv Z h180 b180 k180 .char (2 : Int32) [(.int (0 : Int32)), (.int (0 : Int32))] (.int (0 : Int32)) := (Arv.new A180 (by decide)).pad (pad_rep [] (.int (0 : Int32)) 2)
      refine own_back st180 ?_
      show OwnGo p e below (T180.setTop (mkF m 42 #[.val (.long x1), .second, .val (.int p2), .val (.int p3), .val (.long vv), .second, .val (.int (p2 &&& (3 : Int32))), .unset, .unset, .unset, .unset] [(.ref b180)])) _
      refine own_back (fun t k => XS.astore X180.here hx rfl (hb hby at_42) rfl rfl (l' := #[.val (.long x1), .second, .val (.int p2), .val (.int p3), .val (.long vv), .second, .val (.int (p2 &&& (3 : Int32))), .val (.ref b180), .unset, .unset, .unset]) rfl k) ?_
      show OwnGo p e below (T180.setTop (mkF m 44 #[.val (.long x1), .second, .val (.int p2), .val (.int p3), .val (.long vv), .second, .val (.int (p2 &&& (3 : Int32))), .val (.ref b180), .unset, .unset, .unset] [])) _
      refine own_back (fun t k => XS.aload X180.here hx rfl (hb hby at_44) rfl rfl k) ?_
      show OwnGo p e below (T180.setTop (mkF m 46 #[.val (.long x1), .second, .val (.int p2), .val (.int p3), .val (.long vv), .second, .val (.int (p2 &&& (3 : Int32))), .val (.ref b180), .unset, .unset, .unset] [(.ref b180)])) _
      refine own_back (fun t k => XS.iconst X180.here hx rfl (hb hby at_46) k) ?_
      show OwnGo p e below (T180.setTop (mkF m 47 #[.val (.long x1), .second, .val (.int p2), .val (.int p3), .val (.long vv), .second, .val (.int (p2 &&& (3 : Int32))), .val (.ref b180), .unset, .unset, .unset] [(.int (0 : Int32)), (.ref b180)])) _
      refine own_back (fun t k => XS.iloadN X180.here hx rfl (hb hby at_47) rfl k) ?_
      show OwnGo p e below (T180.setTop (mkF m 48 #[.val (.long x1), .second, .val (.int p2), .val (.int p3), .val (.long vv), .second, .val (.int (p2 &&& (3 : Int32))), .val (.ref b180), .unset, .unset, .unset] [(.int p3), (.int (0 : Int32)), (.ref b180)])) _
      refine own_back (fun t k => XS.sipush X180.here hx rfl (hb hby at_48) k) ?_
      show OwnGo p e below (T180.setTop (mkF m 51 #[.val (.long x1), .second, .val (.int p2), .val (.int p3), .val (.long vv), .second, .val (.int (p2 &&& (3 : Int32))), .val (.ref b180), .unset, .unset, .unset] [(.int (255 : Int32)), (.int p3), (.int (0 : Int32)), (.ref b180)])) _
      refine own_back (fun t k => XS.iand X180.here hx rfl (hb hby at_51) rfl k) ?_
      show OwnGo p e below (T180.setTop (mkF m 52 #[.val (.long x1), .second, .val (.int p2), .val (.int p3), .val (.long vv), .second, .val (.int (p2 &&& (3 : Int32))), .val (.ref b180), .unset, .unset, .unset] [(.int (p3 &&& (255 : Int32))), (.int (0 : Int32)), (.ref b180)])) _
      refine own_back (fun t k => XS.i2c X180.here hx rfl (hb hby at_52) rfl k) ?_
      show OwnGo p e below (T180.setTop (mkF m 53 #[.val (.long x1), .second, .val (.int p2), .val (.int p3), .val (.long vv), .second, .val (.int (p2 &&& (3 : Int32))), .val (.ref b180), .unset, .unset, .unset] [(.int (p3 &&& (255 : Int32)).toUInt32.toUInt16.toUInt32.toInt32), (.int (0 : Int32)), (.ref b180)])) _
      obtain ⟨c187, A187, q187, S187, M187, H187, U187⟩ := id V186
      obtain ⟨T188, h188, X188, e188, W188, st188⟩ := stC X180 hx hZ e180 A187 (j := (0 : Int32)) (inb_of S187 ⟨by decide, by decide⟩) (g := (mkF m 53 #[.val (.long x1), .second, .val (.int p2), .val (.int p3), .val (.long vv), .second, .val (.int (p2 &&& (3 : Int32))), .val (.ref b180), .unset, .unset, .unset] [(.int (p3 &&& (255 : Int32)).toUInt32.toUInt16.toUInt32.toInt32), (.int (0 : Int32)), (.ref b180)])) rfl rfl (hb hby at_53)
      have O189 := O183.wr W188 ge181
      have KP190 := KP184.wr W188 (Or.inr sz182)
      have Zs191 := Nat.le_trans Zs185 (Keep.of_wr W188).1
      have V192 : Arv Z h188 b180 k180 .char (2 : Int32) [(.int (nar .char (p3 &&& (255 : Int32)).toUInt32.toUInt16.toUInt32.toInt32)), (.int (0 : Int32))] (.int (0 : Int32)) := Arv.set A187 q187 S187 M187 H187 U187 (fits_nar_char _) W188 0 rfl (Nat.le_of_ble_eq_true rfl)
      have N193 := Fr.snoc X188 N0 ge181
      refine own_back st188 ?_
      show OwnGo p e below (T188.setTop (mkF m 54 #[.val (.long x1), .second, .val (.int p2), .val (.int p3), .val (.long vv), .second, .val (.int (p2 &&& (3 : Int32))), .val (.ref b180), .unset, .unset, .unset] [])) _
      refine own_back (fun t k => XS.aload X188.here hx rfl (hb hby at_54) rfl rfl k) ?_
      show OwnGo p e below (T188.setTop (mkF m 56 #[.val (.long x1), .second, .val (.int p2), .val (.int p3), .val (.long vv), .second, .val (.int (p2 &&& (3 : Int32))), .val (.ref b180), .unset, .unset, .unset] [(.ref b180)])) _
      refine own_back (fun t k => XS.iconst X188.here hx rfl (hb hby at_56) k) ?_
      show OwnGo p e below (T188.setTop (mkF m 57 #[.val (.long x1), .second, .val (.int p2), .val (.int p3), .val (.long vv), .second, .val (.int (p2 &&& (3 : Int32))), .val (.ref b180), .unset, .unset, .unset] [(.int (1 : Int32)), (.ref b180)])) _
      refine own_back (fun t k => XS.iloadN X188.here hx rfl (hb hby at_57) rfl k) ?_
      show OwnGo p e below (T188.setTop (mkF m 58 #[.val (.long x1), .second, .val (.int p2), .val (.int p3), .val (.long vv), .second, .val (.int (p2 &&& (3 : Int32))), .val (.ref b180), .unset, .unset, .unset] [(.int p3), (.int (1 : Int32)), (.ref b180)])) _
      refine own_back (fun t k => XS.bipush X188.here hx rfl (hb hby at_58) k) ?_
      show OwnGo p e below (T188.setTop (mkF m 60 #[.val (.long x1), .second, .val (.int p2), .val (.int p3), .val (.long vv), .second, .val (.int (p2 &&& (3 : Int32))), .val (.ref b180), .unset, .unset, .unset] [(.int (8 : Int32)), (.int p3), (.int (1 : Int32)), (.ref b180)])) _
      refine own_back (fun t k => XS.iushr X188.here hx rfl (hb hby at_60) rfl k) ?_
      show OwnGo p e below (T188.setTop (mkF m 61 #[.val (.long x1), .second, .val (.int p2), .val (.int p3), .val (.long vv), .second, .val (.int (p2 &&& (3 : Int32))), .val (.ref b180), .unset, .unset, .unset] [(.int ((p3.toUInt32 >>> ((8 : Int32) &&& 31).toUInt32).toInt32)), (.int (1 : Int32)), (.ref b180)])) _
      refine own_back (fun t k => XS.sipush X188.here hx rfl (hb hby at_61) k) ?_
      show OwnGo p e below (T188.setTop (mkF m 64 #[.val (.long x1), .second, .val (.int p2), .val (.int p3), .val (.long vv), .second, .val (.int (p2 &&& (3 : Int32))), .val (.ref b180), .unset, .unset, .unset] [(.int (255 : Int32)), (.int ((p3.toUInt32 >>> ((8 : Int32) &&& 31).toUInt32).toInt32)), (.int (1 : Int32)), (.ref b180)])) _
      refine own_back (fun t k => XS.iand X188.here hx rfl (hb hby at_64) rfl k) ?_
      show OwnGo p e below (T188.setTop (mkF m 65 #[.val (.long x1), .second, .val (.int p2), .val (.int p3), .val (.long vv), .second, .val (.int (p2 &&& (3 : Int32))), .val (.ref b180), .unset, .unset, .unset] [(.int (((p3.toUInt32 >>> ((8 : Int32) &&& 31).toUInt32).toInt32) &&& (255 : Int32))), (.int (1 : Int32)), (.ref b180)])) _
      refine own_back (fun t k => XS.i2c X188.here hx rfl (hb hby at_65) rfl k) ?_
      show OwnGo p e below (T188.setTop (mkF m 66 #[.val (.long x1), .second, .val (.int p2), .val (.int p3), .val (.long vv), .second, .val (.int (p2 &&& (3 : Int32))), .val (.ref b180), .unset, .unset, .unset] [(.int (((p3.toUInt32 >>> ((8 : Int32) &&& 31).toUInt32).toInt32) &&& (255 : Int32)).toUInt32.toUInt16.toUInt32.toInt32), (.int (1 : Int32)), (.ref b180)])) _
      obtain ⟨c194, A194, q194, S194, M194, H194, U194⟩ := id V192
      obtain ⟨T195, h195, X195, e195, W195, st195⟩ := stC X188 hx hZ e188 A194 (j := (1 : Int32)) (inb_of S194 ⟨by decide, by decide⟩) (g := (mkF m 66 #[.val (.long x1), .second, .val (.int p2), .val (.int p3), .val (.long vv), .second, .val (.int (p2 &&& (3 : Int32))), .val (.ref b180), .unset, .unset, .unset] [(.int (((p3.toUInt32 >>> ((8 : Int32) &&& 31).toUInt32).toInt32) &&& (255 : Int32)).toUInt32.toUInt16.toUInt32.toInt32), (.int (1 : Int32)), (.ref b180)])) rfl rfl (hb hby at_66)
      have O196 := O189.wr W195 ge181
      have KP197 := KP190.wr W195 (Or.inr sz182)
      have Zs198 := Nat.le_trans Zs191 (Keep.of_wr W195).1
      have V199 : Arv Z h195 b180 k180 .char (2 : Int32) [(.int (nar .char (p3 &&& (255 : Int32)).toUInt32.toUInt16.toUInt32.toInt32)), (.int (nar .char (((p3.toUInt32 >>> ((8 : Int32) &&& 31).toUInt32).toInt32) &&& (255 : Int32)).toUInt32.toUInt16.toUInt32.toInt32))] (.int (0 : Int32)) := Arv.set A194 q194 S194 M194 H194 U194 (fits_nar_char _) W195 1 rfl (Nat.le_of_ble_eq_true rfl)
      have N200 := Fr.snoc X195 N193 ge181
      refine own_back st195 ?_
      show OwnGo p e below (T195.setTop (mkF m 67 #[.val (.long x1), .second, .val (.int p2), .val (.int p3), .val (.long vv), .second, .val (.int (p2 &&& (3 : Int32))), .val (.ref b180), .unset, .unset, .unset] [])) _
      obtain ⟨T201, h201, X201, e201, E201, A201, D201, -, st201⟩ := newO X195 hx hZ hown (hw _ (List.mem_of_getElem? (i := 2) rfl)) (hw _ (List.mem_of_getElem? (i := 3) rfl)) (hw _ (List.mem_of_getElem? (i := 4) rfl)) e195 (g := (mkF m 67 #[.val (.long x1), .second, .val (.int p2), .val (.int p3), .val (.long vv), .second, .val (.int (p2 &&& (3 : Int32))), .val (.ref b180), .unset, .unset, .unset] [])) rfl (hb hby at_67) (Nat.le_of_ble_eq_true rfl) (Nat.le_of_ble_eq_true rfl)
      obtain ⟨b201, g201⟩ : ∃ z, z = h195.size := ⟨_, rfl⟩
      have ge202 : n0 ≤ b201 := Nat.le_trans Zs198 (Nat.le_of_eq g201.symm)
      have sz203 : h0.size ≤ b201 := Nat.le_trans KP197.1 (Nat.le_of_eq g201.symm)
      rw [← g201] at A201 D201 st201
      have O204 := O196.ext E201
      have KP205 := KP197.ext E201
      have Zs206 := Nat.le_trans Zs198 E201.1
      have f207 := V199.ext E201
      have F208 : Fld Z h201 b201 "java/lang/String" "coder" "B" (.int (0 : Int32)) := D201 (Or.inr (hw _ (List.mem_of_getElem? (i := 28) rfl))) (ty := .byte) (by decide)
      have F209 : Fld Z h201 b201 "java/lang/String" "value" "[B" .null := D201 (Or.inr (hw _ (List.mem_of_getElem? (i := 30) rfl))) (ty := (.array .byte)) (by decide)
      refine own_back st201 ?_
      show OwnGo p e below (T201.setTop (mkF m 70 #[.val (.long x1), .second, .val (.int p2), .val (.int p3), .val (.long vv), .second, .val (.int (p2 &&& (3 : Int32))), .val (.ref b180), .unset, .unset, .unset] [(.ref b201)])) _
      refine own_back (fun t k => XS.dup X201.here hx rfl (hb hby at_70) rfl rfl k) ?_
      show OwnGo p e below (T201.setTop (mkF m 71 #[.val (.long x1), .second, .val (.int p2), .val (.int p3), .val (.long vv), .second, .val (.int (p2 &&& (3 : Int32))), .val (.ref b180), .unset, .unset, .unset] [(.ref b201), (.ref b201)])) _
      refine own_back (fun t k => XS.aload X201.here hx rfl (hb hby at_71) rfl rfl k) ?_
      show OwnGo p e below (T201.setTop (mkF m 73 #[.val (.long x1), .second, .val (.int p2), .val (.int p3), .val (.long vv), .second, .val (.int (p2 &&& (3 : Int32))), .val (.ref b180), .unset, .unset, .unset] [(.ref b180), (.ref b201), (.ref b201)])) _
      obtain ⟨_, _, ⟨T210, L210, k210, n210⟩, -, X210, ⟨Lc210, hQ210, l210, y210, z210⟩, st210⟩ := X201.specialBack hx (y := (⟨"java/lang/String", "<init>", "([C)V"⟩ : MethodName)) rfl hown (mvT hZ (hw _ (List.mem_of_getElem? (i := 5) rfl))) (mvT hZ (hw _ (List.mem_of_getElem? (i := 6) rfl))) (mvT hZ (hw _ (List.mem_of_getElem? (i := 7) rfl))) (by decide) (StrChars.Road.backV (W := 1) hZ (own_wV hw) (kI := 4) (hw _ (List.mem_of_getElem? (i := 3) rfl)) (cs := ([(nar .char (p3 &&& (255 : Int32)).toUInt32.toUInt16.toUInt32.toInt32), (nar .char (((p3.toUInt32 >>> ((8 : Int32) &&& 31).toUInt32).toInt32) &&& (255 : Int32)).toUInt32.toUInt16.toUInt32.toInt32)] : List Int32)) (bs := ([(nar .char (p3 &&& (255 : Int32)).toUInt32.toUInt16.toUInt32.toInt32), (nar .char (((p3.toUInt32 >>> ((8 : Int32) &&& 31).toUInt32).toInt32) &&& (255 : Int32)).toUInt32.toUInt16.toUInt32.toInt32)] : List Int32).map (fun c => c.toInt8.toInt32)) (n := 2) ge202 Zs206 A201 F209 F208 f207 (SC.ext O204.2) hcz rfl rfl (by decide) (by decide) (own_allS (own_c255 _) (own_allS (own_c255 _) own_all0)) rfl (by decide) (by decide)) (g := (mkF m 73 #[.val (.long x1), .second, .val (.int p2), .val (.int p3), .val (.long vv), .second, .val (.int (p2 &&& (3 : Int32))), .val (.ref b180), .unset, .unset, .unset] [(.ref b180), (.ref b201), (.ref b201)])) rfl (by rw [hml]; rfl) (Steps.refl _) (a := b201) (argsL := [(.ref b180)]) (rest := [(.ref b201)]) (lenOf lw_pd0 rfl) rfl (by show 2 * 0 + _ ≤ _; exact Nat.le_of_eq rfl) (hb hby at_73) (fun _ _ => ⟨rfl, e201, Nat.le_of_ble_eq_true rfl, Nat.le_of_ble_eq_true rfl⟩)
      dsimp only [Pt.U, Pt.locs, Pt.cells, Pt.slots] at X210 l210 y210 z210 st210 hQ210
      subst l210 y210 z210
      obtain ⟨rfl, N210q, K210, EX210, C210, t210, kb210, gt210, zt210, nt210, FV210, AV210⟩ := hQ210
      refine own_seq st210 ?_
      have N210 := Fr.app N200 N210q
      have O211 := O204.keep K210 (allS ge202 all0)
      have KP212 := KP205.trans K210 (allS (Or.inr sz203) all0)
      have Zs213 := Nat.le_trans Zs206 K210.1
      have f214 := f207.keep K210 (ninS (Nat.ne_of_lt (Nat.lt_of_lt_of_le V199.lt (Nat.le_of_eq g201.symm))) nin0)
      have f215 := A201.keep K210
      show OwnGo p e below (T210.setTop (mkF m 76 #[.val (.long x1), .second, .val (.int p2), .val (.int p3), .val (.long vv), .second, .val (.int (p2 &&& (3 : Int32))), .val (.ref b180), .unset, .unset, .unset] [(.ref b201)])) _
      refine own_back (fun t k => XS.astore X210.here hx rfl (hb hby at_76) rfl rfl (l' := #[.val (.long x1), .second, .val (.int p2), .val (.int p3), .val (.long vv), .second, .val (.int (p2 &&& (3 : Int32))), .val (.ref b180), .val (.ref b201), .unset, .unset]) rfl k) ?_
      show OwnGo p e below (T210.setTop (mkF m 78 #[.val (.long x1), .second, .val (.int p2), .val (.int p3), .val (.long vv), .second, .val (.int (p2 &&& (3 : Int32))), .val (.ref b180), .val (.ref b201), .unset, .unset] [])) _
      refine own_back (fun t k => XS.aload X210.here hx rfl (hb hby at_78) rfl rfl k) ?_
      show OwnGo p e below (T210.setTop (mkF m 80 #[.val (.long x1), .second, .val (.int p2), .val (.int p3), .val (.long vv), .second, .val (.int (p2 &&& (3 : Int32))), .val (.ref b180), .val (.ref b201), .unset, .unset] [(.ref b201)])) _
      refine own_back (fun t k => XS.lload X210.here hx rfl (hb hby at_80) rfl k) ?_
      show OwnGo p e below (T210.setTop (mkF m 82 #[.val (.long x1), .second, .val (.int p2), .val (.int p3), .val (.long vv), .second, .val (.int (p2 &&& (3 : Int32))), .val (.ref b180), .val (.ref b201), .unset, .unset] [(.long vv), (.ref b201)])) _
      obtain ⟨_, _, ⟨T216, L216, k216, n216⟩, -, X216, ⟨Lc216, hQ216, l216, y216, z216⟩, st216⟩ := Jvm.LawKit.callS X210 hx (y := (⟨"com/example/sorted_set_patterns/sortedsetpatterns/Scores", "toScore", "(Ljava/lang/String;J)D"⟩ : MethodName)) hown (mvT hZ (hw _ (List.mem_of_getElem? (i := 31) rfl))) (mvT hZ (hw _ (List.mem_of_getElem? (i := 32) rfl))) (mvT hZ (hw _ (List.mem_of_getElem? (i := 33) rfl))) (mvT hZ (hw _ (List.mem_of_getElem? (i := 34) rfl))) (by decide) (own_backN (W := 0) (rm_ts l Z a0 hw [] b201 vv T210.heap n0 Zs213 hv1 hv2) hZ (hw _ (List.mem_of_getElem? (i := 34) rfl)) (hw _ (List.mem_of_getElem? (i := 33) rfl)) (by decide) (by decide)) (g := (mkF m 82 #[.val (.long x1), .second, .val (.int p2), .val (.int p3), .val (.long vv), .second, .val (.int (p2 &&& (3 : Int32))), .val (.ref b180), .val (.ref b201), .unset, .unset] [(.long vv), (.ref b201)])) rfl (by rw [hml]; rfl) (argsL := [(.ref b201), (.long vv)]) (rest := []) (lenOf lw_pd1 rfl) rfl (by show 2 * 0 + _ ≤ _; exact Nat.le_of_eq rfl) (hb hby at_82) (fun _ _ => ⟨rfl, rfl, Nat.le_of_ble_eq_true rfl, Nat.le_of_ble_eq_true rfl⟩)
      dsimp only [Pt.U, Pt.locs, Pt.cells, Pt.slots] at X216 l216 y216 z216 st216 hQ216
      subst l216 y216 z216
      obtain ⟨rfl, N216q, hh216⟩ := hQ216
      refine own_back st216 ?_
      have N216 := Fr.app N210 N216q
      show OwnGo p e below (T216.setTop (mkF m 85 #[.val (.long x1), .second, .val (.int p2), .val (.int p3), .val (.long vv), .second, .val (.int (p2 &&& (3 : Int32))), .val (.ref b180), .val (.ref b201), .unset, .unset] [(.double (FP.l2d vv))])) _
      refine own_back (fun t k => XS.dstore X216.here hx rfl (hb hby at_85) rfl (l' := #[.val (.long x1), .second, .val (.int p2), .val (.int p3), .val (.long vv), .second, .val (.int (p2 &&& (3 : Int32))), .val (.ref b180), .val (.ref b201), .val (.double (FP.l2d vv)), .second]) rfl k) ?_
      show OwnGo p e below (T216.setTop (mkF m 87 #[.val (.long x1), .second, .val (.int p2), .val (.int p3), .val (.long vv), .second, .val (.int (p2 &&& (3 : Int32))), .val (.ref b180), .val (.ref b201), .val (.double (FP.l2d vv)), .second] [])) _
      refine own_back (fun t k => XS.dload X216.here hx rfl (hb hby at_87) rfl k) ?_
      show OwnGo p e below (T216.setTop (mkF m 89 #[.val (.long x1), .second, .val (.int p2), .val (.int p3), .val (.long vv), .second, .val (.int (p2 &&& (3 : Int32))), .val (.ref b180), .val (.ref b201), .val (.double (FP.l2d vv)), .second] [(.double (FP.l2d vv))])) _
      refine own_back (fun t k => XS.lload X216.here hx rfl (hb hby at_89) rfl k) ?_
      show OwnGo p e below (T216.setTop (mkF m 91 #[.val (.long x1), .second, .val (.int p2), .val (.int p3), .val (.long vv), .second, .val (.int (p2 &&& (3 : Int32))), .val (.ref b180), .val (.ref b201), .val (.double (FP.l2d vv)), .second] [(.long vv), (.double (FP.l2d vv))])) _
      refine own_back (fun t k => XS.l2dS X216.here hx rfl (hb hby at_91) rfl rfl k) ?_
      show OwnGo p e below (T216.setTop (mkF m 92 #[.val (.long x1), .second, .val (.int p2), .val (.int p3), .val (.long vv), .second, .val (.int (p2 &&& (3 : Int32))), .val (.ref b180), .val (.ref b201), .val (.double (FP.l2d vv)), .second] [(.double (FP.l2d vv)), (.double (FP.l2d vv))])) _
      refine own_back (fun t k => XS.dcmpS X216.here hx rfl (hb hby at_92) rfl rfl k) ?_
      show OwnGo p e below (T216.setTop (mkF m 93 #[.val (.long x1), .second, .val (.int p2), .val (.int p3), .val (.long vv), .second, .val (.int (p2 &&& (3 : Int32))), .val (.ref b180), .val (.ref b201), .val (.double (FP.l2d vv)), .second] [(.int (cmpValue (FP.dcmp (FP.l2d vv) (FP.l2d vv)) .l))])) _
      refine own_back (fun t k => XS.ifYes X216.here hx rfl (pc0 := 93) (pc' := 98) rfl (hb hby at_93) rfl (Jvm.Free.XT.i0_eq_t (dcmpV_self (own_nnD vv) .l)) (by decide) (by decide) k) ?_
      show OwnGo p e below (T216.setTop (mkF m 98 #[.val (.long x1), .second, .val (.int p2), .val (.int p3), .val (.long vv), .second, .val (.int (p2 &&& (3 : Int32))), .val (.ref b180), .val (.ref b201), .val (.double (FP.l2d vv)), .second] [])) _
      refine own_back (fun t k => XS.dload X216.here hx rfl (hb hby at_98) rfl k) ?_
      show OwnGo p e below (T216.setTop (mkF m 100 #[.val (.long x1), .second, .val (.int p2), .val (.int p3), .val (.long vv), .second, .val (.int (p2 &&& (3 : Int32))), .val (.ref b180), .val (.ref b201), .val (.double (FP.l2d vv)), .second] [(.double (FP.l2d vv))])) _
      refine own_back (fun t k => XS.d2lS X216.here hx rfl (hb hby at_100) rfl (own_d2l hv1 hv2) k) ?_
      show OwnGo p e below (T216.setTop (mkF m 101 #[.val (.long x1), .second, .val (.int p2), .val (.int p3), .val (.long vv), .second, .val (.int (p2 &&& (3 : Int32))), .val (.ref b180), .val (.ref b201), .val (.double (FP.l2d vv)), .second] [(.long vv)])) _
      refine own_back (fun t k => XS.lload X216.here hx rfl (hb hby at_101) rfl k) ?_
      show OwnGo p e below (T216.setTop (mkF m 103 #[.val (.long x1), .second, .val (.int p2), .val (.int p3), .val (.long vv), .second, .val (.int (p2 &&& (3 : Int32))), .val (.ref b180), .val (.ref b201), .val (.double (FP.l2d vv)), .second] [(.long vv), (.long vv)])) _
      refine own_back (fun t k => XT.lcmp X216.here hx rfl (hb hby at_103) rfl k) ?_
      show OwnGo p e below (T216.setTop (mkF m 104 #[.val (.long x1), .second, .val (.int p2), .val (.int p3), .val (.long vv), .second, .val (.int (p2 &&& (3 : Int32))), .val (.ref b180), .val (.ref b201), .val (.double (FP.l2d vv)), .second] [(.int (XT.cmpL vv vv))])) _
      refine own_back (fun t k => XS.ifYes X216.here hx rfl (pc0 := 104) (pc' := 109) rfl (hb hby at_104) rfl (Jvm.Free.XT.ll_eq_t rfl) (by decide) (by decide) k) ?_
      show OwnGo p e below (T216.setTop (mkF m 109 #[.val (.long x1), .second, .val (.int p2), .val (.int p3), .val (.long vv), .second, .val (.int (p2 &&& (3 : Int32))), .val (.ref b180), .val (.ref b201), .val (.double (FP.l2d vv)), .second] [])) _
      refine own_back (fun t k => XS.aload X216.here hx rfl (hb hby at_109) rfl rfl k) ?_
      show OwnGo p e below (T216.setTop (mkF m 111 #[.val (.long x1), .second, .val (.int p2), .val (.int p3), .val (.long vv), .second, .val (.int (p2 &&& (3 : Int32))), .val (.ref b180), .val (.ref b201), .val (.double (FP.l2d vv)), .second] [(.ref b201)])) _
      refine own_back (fun t k => XS.dload X216.here hx rfl (hb hby at_111) rfl k) ?_
      show OwnGo p e below (T216.setTop (mkF m 113 #[.val (.long x1), .second, .val (.int p2), .val (.int p3), .val (.long vv), .second, .val (.int (p2 &&& (3 : Int32))), .val (.ref b180), .val (.ref b201), .val (.double (FP.l2d vv)), .second] [(.double (FP.l2d vv)), (.ref b201)])) _
      obtain ⟨_, _, ⟨T217, L217, k217, n217⟩, -, X217, ⟨Lc217, hQ217, l217, y217, z217⟩, st217⟩ := Jvm.LawKit.callS X216 hx (y := (⟨"com/example/sorted_set_patterns/sortedsetpatterns/Scores", "toValue", "(Ljava/lang/String;D)J"⟩ : MethodName)) hown (mvT hZ (hw _ (List.mem_of_getElem? (i := 37) rfl))) (mvT hZ (hw _ (List.mem_of_getElem? (i := 38) rfl))) (mvT hZ (hw _ (List.mem_of_getElem? (i := 33) rfl))) (mvT hZ (hw _ (List.mem_of_getElem? (i := 39) rfl))) (by decide) (own_backN (W := 0) (rm_tv l Z a0 hw [] b201 vv T210.heap n0 Zs213 hv1 hv2) hZ (hw _ (List.mem_of_getElem? (i := 39) rfl)) (hw _ (List.mem_of_getElem? (i := 33) rfl)) (by decide) (by decide)) (g := (mkF m 113 #[.val (.long x1), .second, .val (.int p2), .val (.int p3), .val (.long vv), .second, .val (.int (p2 &&& (3 : Int32))), .val (.ref b180), .val (.ref b201), .val (.double (FP.l2d vv)), .second] [(.double (FP.l2d vv)), (.ref b201)])) rfl (by rw [hml]; rfl) (argsL := [(.ref b201), (.double (FP.l2d vv))]) (rest := []) (lenOf lw_pd2 rfl) rfl (by show 2 * 0 + _ ≤ _; exact Nat.le_of_eq rfl) (hb hby at_113) (fun _ _ => ⟨rfl, hh216, Nat.le_of_ble_eq_true rfl, Nat.le_of_ble_eq_true rfl⟩)
      dsimp only [Pt.U, Pt.locs, Pt.cells, Pt.slots] at X217 l217 y217 z217 st217 hQ217
      subst l217 y217 z217
      obtain ⟨rfl, N217q, hh217⟩ := hQ217
      refine own_back st217 ?_
      have N217 := Fr.app N216 N217q
      show OwnGo p e below (T217.setTop (mkF m 116 #[.val (.long x1), .second, .val (.int p2), .val (.int p3), .val (.long vv), .second, .val (.int (p2 &&& (3 : Int32))), .val (.ref b180), .val (.ref b201), .val (.double (FP.l2d vv)), .second] [(.long vv)])) _
      refine own_back (fun t k => XS.lload X217.here hx rfl (hb hby at_116) rfl k) ?_
      show OwnGo p e below (T217.setTop (mkF m 118 #[.val (.long x1), .second, .val (.int p2), .val (.int p3), .val (.long vv), .second, .val (.int (p2 &&& (3 : Int32))), .val (.ref b180), .val (.ref b201), .val (.double (FP.l2d vv)), .second] [(.long vv), (.long vv)])) _
      refine own_back (fun t k => XT.lcmp X217.here hx rfl (hb hby at_118) rfl k) ?_
      show OwnGo p e below (T217.setTop (mkF m 119 #[.val (.long x1), .second, .val (.int p2), .val (.int p3), .val (.long vv), .second, .val (.int (p2 &&& (3 : Int32))), .val (.ref b180), .val (.ref b201), .val (.double (FP.l2d vv)), .second] [(.int (XT.cmpL vv vv))])) _
      refine own_back (fun t k => XS.ifNo X217.here hx rfl (hb hby at_119) rfl (Jvm.Free.XT.ll_ne_f rfl) k) ?_
      show OwnGo p e below (T217.setTop (mkF m 122 #[.val (.long x1), .second, .val (.int p2), .val (.int p3), .val (.long vv), .second, .val (.int (p2 &&& (3 : Int32))), .val (.ref b180), .val (.ref b201), .val (.double (FP.l2d vv)), .second] [])) _
      refine own_back (fun t k => XS.iconst X217.here hx rfl (hb hby at_122) k) ?_
      show OwnGo p e below (T217.setTop (mkF m 123 #[.val (.long x1), .second, .val (.int p2), .val (.int p3), .val (.long vv), .second, .val (.int (p2 &&& (3 : Int32))), .val (.ref b180), .val (.ref b201), .val (.double (FP.l2d vv)), .second] [(.int (1 : Int32))])) _
      refine own_back (fun t k => XS.goto X217.here hx rfl (pc0 := 123) (pc' := 127) rfl (hb hby at_123) (by decide) (by decide) k) ?_
      show OwnGo p e below (T217.setTop (mkF m 127 #[.val (.long x1), .second, .val (.int p2), .val (.int p3), .val (.long vv), .second, .val (.int (p2 &&& (3 : Int32))), .val (.ref b180), .val (.ref b201), .val (.double (FP.l2d vv)), .second] [(.int (1 : Int32))])) _
      refine own_retN X217 hx Bd.notSynchronized (t := .boolean) (z := (1 : Int32)) Bd.returns (by simp) rfl (hb hby at_127) hh217 (Nat.le_of_ble_eq_true rfl) (Nat.le_of_ble_eq_true rfl) ?_
      exact ⟨rfl, N217⟩
set_option maxRecDepth 65536 in
set_option maxHeartbeats 40000000 in
theorem comes_1 {Post : Tables → Env → Array Value → State → Outcome → State → Prop} (hpost : ∀ tb e args s v u, (limb_1_1.after args s (.returned v) u = true ∧ limb_1_2.after args s (.returned v) u = true ∧ True) → FrameEnd s (.returned v) u (Jvm.fieldLocs frame_1_writes args s ++ Jvm.arrayLocs frame_1_arrays args s ++ Jvm.staticLocs frame_1_statics s) 16 128 → Post tb e args s (.returned v) u) :
    ArmFor flags0 classFile x code maxLocals ret World_1 tables_1 room_1 Calls_1 rest_1 Pre_1 Post := by
  intro l hfl _ _ p e ha hc hk s m args below hf hA hF happ hP
  obtain ⟨hcalls, hrest, hpre⟩ := hP
  obtain ⟨-, -, -, hnamed, -, -, -, hat⟩ := (Spec.applies_iff hf).mp happ
  obtain ⟨hg, hn⟩ := and_e (Cond.before_iff.mp (show (Jvm.Cond.and given_1 narrow_1).before args s = true from hpre))
  obtain ⟨g1, g2⟩ := and_e hg
  obtain ⟨g3, g4⟩ := and_e g2
  obtain ⟨g5, g6⟩ := and_e g4
  obtain ⟨w0, w1, w2, rfl⟩ : ∃ w0 w1 w2 : Value, args = #[w0, w1, w2] := by
    have hs : args.size = 3 := by simpa [Cond.value, given_1] using g1
    obtain ⟨L⟩ := args
    match L, hs with
    | [w0, w1, w2], _ => exact ⟨w0, w1, w2, rfl⟩
  have hw := fun d (hd : d ∈ tables_1) => atoms_spec (ws := Jvm.Cond.code x code maxLocals ret :: tables_1) hat d (List.mem_cons_of_mem _ hd)
  have hfit : Fit s := fun {y c} hc i hi => by
    obtain ⟨ha, rfl⟩ := Array.getElem?_eq_some_iff.mp hc
    have q := List.all_eq_true.mp ((Array.all_eq_true_iff_forall_mem.mp hF) _ (Array.getElem_mem ha)) i (List.mem_range.mpr hi)
    simpa [Array.getElem?_eq_getElem hi] using q
  obtain ⟨hsets, hown0⟩ := atoms_of _ (rest_1_c_eq ▸ (show rest_1_c.before _ s = true from hrest))
  have hr0 := Cond.before_iff.mp hown0
  obtain ⟨i0, ei0⟩ := isL_v g3
  obtain rfl : w0 = (.long i0) := Option.some.inj ei0
  obtain ⟨i1, ei1⟩ := is_v g5
  obtain rfl : w1 = (.int i1) := Option.some.inj ei1
  obtain ⟨i2, ei2⟩ := is_v g6
  obtain rfl : w2 = (.int i2) := Option.some.inj ei2
  obtain ⟨cz, ecz⟩ := is_v (Cond.before_iff.mp (hsets _ (List.mem_of_getElem? (i := 1) rfl)))
  have SC : Sta s s.heap "java/lang/String" "COMPACT_STRINGS" "Z" (.int cz) := Sta.start ecz (Or.inl (hsets _ (List.mem_of_getElem? (i := 0) rfl)))
  have ncz := not_v (Cond.before_iff.mp (hsets _ (List.mem_of_getElem? (i := 2) rfl)))
  have hcz : ¬ (cz = (0 : Int32)) := gotF (Cond.eq_ints ecz (Term.int_eval (0))) ncz
  obtain ⟨n, o, h1, h2, h3, _, L, rfl, ⟨rfl, N⟩, hq⟩ := rm_law l s _ hw tables_1 i0 i1 i2 cz s.heap s.heap.size (Nat.le_refl _) (Old.start s) SC hcz p e ha hc hk s m _ below hf ((Spec.applies_iff_loose hf).mp happ).1 ⟨rfl, State.Warmed39.refl s, rfl⟩ trivial
  refine ⟨n, _, h1, h2, h3, hpost _ _ _ _ _ _ ⟨Cond.after_iff.mpr rfl, Cond.after_iff.mpr (eq_i res_at (Term.int_eval (1)) rfl), trivial⟩ ⟨hq.1, hq.2.1, (hq.2.2.sift fun y hy => Or.inr (N y hy)).mono (by decide) (by decide)⟩⟩
theorem main_1_1 : Claimed_1_1 := comes_1 fun _ _ _ _ _ _ h hF => ⟨h.1, hF⟩
theorem main_1_2 : Claimed_1_2 := comes_1 fun _ _ _ _ _ _ h hF => ⟨h.2.1, hF⟩
end Jvm.Pilot.@@N@@
namespace Jvm.Pilot.@@N@@
open Jvm Jvm.ClassFile Sem Op Lib Jvm.Free Jvm.Stand Jvm.Pilot.@@N@@.Jvm.D
/-! MADE BY PROGRAM (witnessworld.py) out of the Statement's table words and the real class files: 20 classes; the members and pool entries that the words name. The judged class is class 1, her method 1. -/
namespace start1
open Jvm.ClassFile
def u (s : String) : CpInfo := .utf8 (stringToUtf16 s)
/-- a pool by its gaps: so many unusable entries, then the entry; so many at the end -/
def gap : Nat → List CpInfo → List CpInfo
  | 0, r => r
  | n + 1, r => .unusable :: gap n r
def poolList (es : List (Nat × CpInfo)) (last : Nat) : List CpInfo := es.foldr (fun e r => gap e.1 (e.2 :: r)) (gap last [])
def pool (es : List (Nat × CpInfo)) (last : Nat) : Array CpInfo := ⟨poolList es last⟩
def fileOf (pool : Array CpInfo) (this : Nat) (attrs : Array Attribute := #[]) (ms : Array MethodInfo := #[]) (fl : Nat := 33) (sup : Nat := 0) (ifs : Array Nat := #[]) (fds : Array FieldInfo := #[]) : ClassFile where
  minorVersion := 0
  majorVersion := 65
  constantPool := pool
  accessFlags := fl
  thisClass := this
  superClass := sup
  interfaces := ifs
  fields := fds
  methods := ms
  attributes := attrs
def plain (name : String) (sup : Option ClassId) : Class where
  name := name
  kind := .ordinary
  loader := none
  accessFlags := 33
  super := sup
  interfaces := #[]
  cf := none
  fields := #[]
  methods := #[]
  instanceTypes := #[]
  staticTypes := #[]
  resolved := #[]
  callSites := []
  init := .initialized
  statics := none
  mirror := none

def pool0 : Array CpInfo := pool [(5, u "<init>"), (0, u "()V"), (1, .class_ 10), (1, u "java/lang/Object")] 113

def k0c0 : Code := { maxStack := 0, maxLocals := 1, code := object_method_1_code, exceptionTable := #[], attributes := #[] }
def k0m0 : Method := { name := "<init>", desc := "()V", sig := { parameters := [], returnType := none }, accessFlags := 1, code := some k0c0 }
/-- java/lang/Object -/
def k0 : Class := { plain "java/lang/Object" none with
  accessFlags := 33
  interfaces := #[]
  cf := some (fileOf pool0 8 #[] #[{ accessFlags := 1, nameIndex := 5, descriptorIndex := 6, attributes := #[] }] 33 0 #[] #[])
  fields := #[]
  methods := #[k0m0]
  instanceTypes := #[]
  staticTypes := #[]
  resolved := Array.replicate 124 none
  statics := none }

def pool1 : Array CpInfo := pool [(2, .class_ 4), (1, u "java/lang/Object"), (0, u "<init>"), (0, u "()V"), (0, .class_ 8), (0, u "com/example/sorted_set_patterns/sortedsetpatterns/Scores"), (0, .long 9007199254740992), (1, .long 18437736874454810624), (1, .long 9007199254740993), (1, .class_ 16), (0, u "java/lang/String"), (0, .methodref 15 18), (0, .nameAndType 5 19), (0, u "([C)V"), (0, .methodref 7 21), (0, .nameAndType 22 23), (0, u "toScore"), (0, u "(Ljava/lang/String;J)D"), (0, .methodref 7 25), (0, .nameAndType 26 27), (0, u "toValue"), (0, u "(Ljava/lang/String;D)J"), (0, .class_ 29), (0, u "com/example/sorted_set_patterns/sortedsetpatterns/ScoresToScorePinLaw"), (2, u "law"), (0, u "(JII)Z")] 5

def k1m0 : Method := { name := "<init>", desc := "()V", sig := { parameters := [], returnType := none }, accessFlags := 1, code := none }
def k1c1 : Code := { maxStack := 4, maxLocals := 11, code := code, exceptionTable := #[], attributes := #[] }
def k1m1 : Method := { name := "law", desc := "(JII)Z", sig := { parameters := [.long, .int, .int], returnType := some .boolean }, accessFlags := 9, code := some k1c1 }
/-- com/example/sorted_set_patterns/sortedsetpatterns/ScoresToScorePinLaw -/
def k1 : Class := { plain "com/example/sorted_set_patterns/sortedsetpatterns/ScoresToScorePinLaw" (some 0) with
  accessFlags := 49
  interfaces := #[]
  cf := some (fileOf pool1 28 #[] #[{ accessFlags := 1, nameIndex := 5, descriptorIndex := 6, attributes := #[] }, { accessFlags := 9, nameIndex := 32, descriptorIndex := 33, attributes := #[] }] 49 2 #[] #[])
  fields := #[]
  methods := #[k1m0, k1m1]
  instanceTypes := #[]
  staticTypes := #[]
  resolved := Array.replicate 39 none
  statics := none }

def pool2 : Array CpInfo := pool [(1, .class_ 2), (0, u "java/io/Serializable"), (0, .class_ 4), (0, u "java/lang/Object")] 2

/-- java/io/Serializable -/
def k2 : Class := { plain "java/io/Serializable" (some 0) with
  accessFlags := 1537
  interfaces := #[]
  cf := some (fileOf pool2 1 #[] #[] 1537 3 #[] #[])
  fields := #[]
  methods := #[]
  instanceTypes := #[]
  staticTypes := #[]
  resolved := Array.replicate 7 none
  statics := none }

def pool3 : Array CpInfo := pool [(1, .class_ 2), (0, u "java/lang/Comparable"), (0, .class_ 4), (0, u "java/lang/Object")] 7

/-- java/lang/Comparable -/
def k3 : Class := { plain "java/lang/Comparable" (some 0) with
  accessFlags := 1537
  interfaces := #[]
  cf := some (fileOf pool3 1 #[] #[] 1537 3 #[] #[])
  fields := #[]
  methods := #[]
  instanceTypes := #[]
  staticTypes := #[]
  resolved := Array.replicate 12 none
  statics := none }

def pool4 : Array CpInfo := pool [(2, .class_ 4), (1, u "java/lang/CharSequence"), (42, .class_ 48), (0, u "java/lang/CharSequence$1CodePointIterator"), (10, .class_ 60), (0, u "java/lang/CharSequence$1CharIterator"), (5, .class_ 67), (0, u "java/lang/Object")] 63

/-- java/lang/CharSequence -/
def k4 : Class := { plain "java/lang/CharSequence" (some 0) with
  accessFlags := 1537
  interfaces := #[]
  cf := some (fileOf pool4 2 #[.nestMembers #[47, 59]] #[] 1537 66 #[] #[])
  fields := #[]
  methods := #[]
  instanceTypes := #[]
  staticTypes := #[]
  resolved := Array.replicate 131 none
  statics := none }

def pool5 : Array CpInfo := pool [(1, .class_ 2), (0, u "java/lang/constant/Constable"), (0, .class_ 4), (0, u "java/lang/Object")] 6

/-- java/lang/constant/Constable -/
def k5 : Class := { plain "java/lang/constant/Constable" (some 0) with
  accessFlags := 1537
  interfaces := #[]
  cf := some (fileOf pool5 1 #[] #[] 1537 3 #[] #[])
  fields := #[]
  methods := #[]
  instanceTypes := #[]
  staticTypes := #[]
  resolved := Array.replicate 11 none
  statics := none }

def pool6 : Array CpInfo := pool [(1, .class_ 2), (0, u "java/lang/constant/ConstantDesc"), (0, .class_ 4), (0, u "java/lang/Object")] 32

/-- java/lang/constant/ConstantDesc -/
def k6 : Class := { plain "java/lang/constant/ConstantDesc" (some 0) with
  accessFlags := 1537
  interfaces := #[]
  cf := some (fileOf pool6 1 #[] #[] 1537 3 #[] #[])
  fields := #[]
  methods := #[]
  instanceTypes := #[]
  staticTypes := #[]
  resolved := Array.replicate 37 none
  statics := none }

def pool7 : Array CpInfo := pool [(1, .methodref 2 3), (0, .class_ 4), (0, .nameAndType 5 6), (0, u "java/lang/Object"), (0, u "<init>"), (0, u "()V"), (2, .fieldref 10 11), (0, .class_ 12), (0, .nameAndType 13 14), (0, u "java/lang/String"), (0, u "value"), (0, u "[B"), (0, .fieldref 10 16), (0, .nameAndType 17 18), (0, u "coder"), (0, u "B"), (2, u "hash"), (0, u "I"), (2, u "hashIsZero"), (0, u "Z"), (0, .methodref 10 28), (0, .nameAndType 5 29), (0, u "([CIILjava/lang/Void;)V"), (8, .fieldref 10 39), (0, .nameAndType 40 26), (0, u "COMPACT_STRINGS"), (1, .class_ 44), (1, u "java/lang/StringUTF16"), (0, u "compress"), (1, .methodref 42 48), (0, .nameAndType 49 50), (0, u "coderFromArrayLen"), (0, u "([BI)B"), (126, .methodref 42 178), (0, .nameAndType 45 179), (0, u "([CII)[B"), (395, .class_ 576), (0, u "java/lang/CharSequence"), (22, u "CASE_INSENSITIVE_ORDER"), (0, u "Ljava/util/Comparator;"), (409, u "([C)V"), (90, u "serialPersistentFields"), (0, u "[Ljava/io/ObjectStreamField;"), (0, .class_ 1104), (0, u "java/lang/String$CaseInsensitiveComparator"), (1, .class_ 1107), (0, u "java/io/Serializable"), (0, .class_ 1109), (0, u "java/lang/Comparable"), (0, .class_ 1111), (0, u "java/lang/constant/Constable"), (0, .class_ 1113), (0, u "java/lang/constant/ConstantDesc"), (2, u "serialVersionUID"), (0, u "J"), (3, u "REPL"), (0, u "C"), (2, u "LATIN1"), (1, u "UTF16")] 323

def k7m0 : Method := { name := "<init>", desc := "()V", sig := { parameters := [], returnType := none }, accessFlags := 1, code := none }
def k7c1 : Code := { maxStack := 5, maxLocals := 2, code := jdk_42_method_3_code, exceptionTable := #[], attributes := #[] }
def k7m1 : Method := { name := "<init>", desc := "([C)V", sig := { parameters := [(.array .char)], returnType := none }, accessFlags := 1, code := some k7c1 }
def k7c2 : Code := { maxStack := 4, maxLocals := 6, code := jdk_42_method_149_code, exceptionTable := #[], attributes := #[] }
def k7m2 : Method := { name := "<init>", desc := "([CIILjava/lang/Void;)V", sig := { parameters := [(.array .char), .int, .int, (.object "java/lang/Void")], returnType := none }, accessFlags := 2, code := some k7c2 }
/-- java/lang/String -/
def k7 : Class := { plain "java/lang/String" (some 0) with
  accessFlags := 49
  interfaces := #[2, 3, 4, 5, 6]
  cf := some (fileOf pool7 10 #[.nestMembers #[1103]] #[{ accessFlags := 1, nameIndex := 5, descriptorIndex := 6, attributes := #[] }, { accessFlags := 1, nameIndex := 5, descriptorIndex := 1010, attributes := #[] }, { accessFlags := 2, nameIndex := 5, descriptorIndex := 29, attributes := #[] }] 49 2 #[1106, 1108, 575, 1110, 1112] #[{ accessFlags := 18, nameIndex := 13, descriptorIndex := 14, attributes := #[] }, { accessFlags := 18, nameIndex := 17, descriptorIndex := 18, attributes := #[] }, { accessFlags := 2, nameIndex := 21, descriptorIndex := 22, attributes := #[] }, { accessFlags := 2, nameIndex := 25, descriptorIndex := 26, attributes := #[] }, { accessFlags := 26, nameIndex := 1116, descriptorIndex := 1117, attributes := #[] }, { accessFlags := 24, nameIndex := 40, descriptorIndex := 26, attributes := #[] }, { accessFlags := 26, nameIndex := 1101, descriptorIndex := 1102, attributes := #[] }, { accessFlags := 26, nameIndex := 1121, descriptorIndex := 1122, attributes := #[] }, { accessFlags := 25, nameIndex := 599, descriptorIndex := 600, attributes := #[] }, { accessFlags := 24, nameIndex := 1125, descriptorIndex := 18, attributes := #[] }, { accessFlags := 24, nameIndex := 1127, descriptorIndex := 18, attributes := #[] }])
  fields := #[{ name := "value", type := (.array .byte), accessFlags := 18, slot := 0, constantValue := 0 }, { name := "coder", type := .byte, accessFlags := 18, slot := 1, constantValue := 0 }, { name := "hash", type := .int, accessFlags := 2, slot := 2, constantValue := 0 }, { name := "hashIsZero", type := .boolean, accessFlags := 2, slot := 3, constantValue := 0 }, { name := "serialVersionUID", type := .long, accessFlags := 26, slot := 0, constantValue := 0 }, { name := "COMPACT_STRINGS", type := .boolean, accessFlags := 24, slot := 1, constantValue := 0 }, { name := "serialPersistentFields", type := (.array (.object "java/io/ObjectStreamField")), accessFlags := 26, slot := 2, constantValue := 0 }, { name := "REPL", type := .char, accessFlags := 26, slot := 3, constantValue := 0 }, { name := "CASE_INSENSITIVE_ORDER", type := (.object "java/util/Comparator"), accessFlags := 25, slot := 4, constantValue := 0 }, { name := "LATIN1", type := .byte, accessFlags := 24, slot := 5, constantValue := 0 }, { name := "UTF16", type := .byte, accessFlags := 24, slot := 6, constantValue := 0 }]
  methods := #[k7m0, k7m1, k7m2]
  instanceTypes := #[(.array .byte), .byte, .int, .boolean]
  staticTypes := #[.long, .boolean, (.array (.object "java/io/ObjectStreamField")), .char, (.object "java/util/Comparator"), .byte, .byte]
  resolved := Array.replicate 1451 none
  statics := some 0 }

def pool8 : Array CpInfo := pool [(6, .class_ 8), (1, u "java/lang/Object"), (0, u "<init>"), (0, u "()V"), (1, .class_ 14), (1, u "java/lang/StringUTF16"), (31, u "$assertionsDisabled"), (0, u "Z"), (13, u "HI_BYTE_SHIFT"), (0, u "I"), (2, u "LO_BYTE_SHIFT"), (49, .methodref 12 116), (0, .nameAndType 117 118), (0, u "compress"), (0, u "([CI[BII)I"), (3, u "([CII)[B"), (138, u "coderFromArrayLen"), (0, u "([BI)B"), (106, .class_ 371), (1, u "java/lang/StringUTF16$LinesSpliterator"), (58, u "MAX_LENGTH"), (196, .class_ 628), (0, u "java/lang/StringUTF16$CodePointsSpliterator"), (0, .class_ 630), (0, u "java/lang/StringUTF16$CharsSpliterator")] 4

def k8m0 : Method := { name := "<init>", desc := "()V", sig := { parameters := [], returnType := none }, accessFlags := 0, code := none }
def k8c1 : Code := { maxStack := 2, maxLocals := 2, code := jdk_52_method_15_code, exceptionTable := #[], attributes := #[] }
def k8m1 : Method := { name := "coderFromArrayLen", desc := "([BI)B", sig := { parameters := [(.array .byte), .int], returnType := some .byte }, accessFlags := 8, code := some k8c1 }
def k8c2 : Code := { maxStack := 5, maxLocals := 6, code := jdk_52_method_16_code, exceptionTable := #[], attributes := #[] }
def k8m2 : Method := { name := "compress", desc := "([CII)[B", sig := { parameters := [(.array .char), .int, .int], returnType := some (.array .byte) }, accessFlags := 9, code := some k8c2 }
def k8c3 : Code := { maxStack := 3, maxLocals := 7, code := jdk_52_method_21_code, exceptionTable := #[], attributes := #[] }
def k8m3 : Method := { name := "compress", desc := "([CI[BII)I", sig := { parameters := [(.array .char), .int, (.array .byte), .int, .int], returnType := some .int }, accessFlags := 9, code := some k8c3 }
/-- java/lang/StringUTF16 -/
def k8 : Class := { plain "java/lang/StringUTF16" (some 0) with
  accessFlags := 48
  interfaces := #[]
  cf := some (fileOf pool8 12 #[.nestMembers #[627, 629, 369]] #[{ accessFlags := 0, nameIndex := 9, descriptorIndex := 10, attributes := #[] }, { accessFlags := 8, nameIndex := 261, descriptorIndex := 262, attributes := #[] }, { accessFlags := 9, nameIndex := 117, descriptorIndex := 122, attributes := #[] }, { accessFlags := 9, nameIndex := 117, descriptorIndex := 118, attributes := #[] }] 48 6 #[] #[{ accessFlags := 26, nameIndex := 61, descriptorIndex := 62, attributes := #[] }, { accessFlags := 26, nameIndex := 65, descriptorIndex := 62, attributes := #[] }, { accessFlags := 24, nameIndex := 430, descriptorIndex := 62, attributes := #[] }, { accessFlags := 4120, nameIndex := 46, descriptorIndex := 47, attributes := #[] }])
  fields := #[{ name := "HI_BYTE_SHIFT", type := .int, accessFlags := 26, slot := 0, constantValue := 0 }, { name := "LO_BYTE_SHIFT", type := .int, accessFlags := 26, slot := 1, constantValue := 0 }, { name := "MAX_LENGTH", type := .int, accessFlags := 24, slot := 2, constantValue := 0 }, { name := "$assertionsDisabled", type := .boolean, accessFlags := 4120, slot := 3, constantValue := 0 }]
  methods := #[k8m0, k8m1, k8m2, k8m3]
  instanceTypes := #[]
  staticTypes := #[.int, .int, .int, .boolean]
  resolved := Array.replicate 635 none
  statics := none }

def pool9 : Array CpInfo := pool [(1, .class_ 2), (0, u "com/example/sorted_set_patterns/sortedsetpatterns/Scores"), (1, .class_ 6), (1, u "java/lang/Object"), (0, u "<init>"), (0, u "()V"), (0, .long 18437736874454810624), (1, .long 9007199254740992), (6, .double 14069245235905429504), (1, .double 4845873199050653696), (1, .methodref 23 24), (0, .class_ 25), (0, .nameAndType 26 27), (0, u "java/lang/Math"), (0, u "rint"), (0, u "(D)D"), (9, u "MAX_EXACT"), (0, u "J"), (1, u "MIN_EXACT"), (2, u "toScore"), (0, u "(Ljava/lang/String;J)D"), (1, u "toValue"), (0, u "(Ljava/lang/String;D)J")] 17

def k9m0 : Method := { name := "<init>", desc := "()V", sig := { parameters := [], returnType := none }, accessFlags := 2, code := none }
def k9c1 : Code := { maxStack := 9, maxLocals := 3, code := prog_6_method_2_code, exceptionTable := #[], attributes := #[] }
def k9m1 : Method := { name := "toScore", desc := "(Ljava/lang/String;J)D", sig := { parameters := [(.object "java/lang/String"), .long], returnType := some .double }, accessFlags := 9, code := some k9c1 }
def k9c2 : Code := { maxStack := 5, maxLocals := 3, code := prog_6_method_3_code, exceptionTable := #[], attributes := #[] }
def k9m2 : Method := { name := "toValue", desc := "(Ljava/lang/String;D)J", sig := { parameters := [(.object "java/lang/String"), .double], returnType := some .long }, accessFlags := 9, code := some k9c2 }
/-- com/example/sorted_set_patterns/sortedsetpatterns/Scores -/
def k9 : Class := { plain "com/example/sorted_set_patterns/sortedsetpatterns/Scores" (some 0) with
  accessFlags := 33
  interfaces := #[]
  cf := some (fileOf pool9 1 #[] #[{ accessFlags := 2, nameIndex := 7, descriptorIndex := 8, attributes := #[] }, { accessFlags := 9, nameIndex := 43, descriptorIndex := 44, attributes := #[] }, { accessFlags := 9, nameIndex := 46, descriptorIndex := 47, attributes := #[] }] 33 4 #[] #[{ accessFlags := 25, nameIndex := 37, descriptorIndex := 38, attributes := #[] }, { accessFlags := 25, nameIndex := 40, descriptorIndex := 38, attributes := #[] }])
  fields := #[{ name := "MAX_EXACT", type := .long, accessFlags := 25, slot := 0, constantValue := 0 }, { name := "MIN_EXACT", type := .long, accessFlags := 25, slot := 1, constantValue := 0 }]
  methods := #[k9m0, k9m1, k9m2]
  instanceTypes := #[]
  staticTypes := #[.long, .long]
  resolved := Array.replicate 65 none
  statics := none }

def pool10 : Array CpInfo := pool [(1, .class_ 2), (0, u "java/lang/Math"), (1, .class_ 6), (1, u "java/lang/Object"), (0, u "<init>"), (0, u "()V"), (1, .class_ 12), (1, u "java/lang/StrictMath"), (1, u "(D)D"), (37, u "(DD)D"), (6, .methodref 10 60), (0, .nameAndType 61 14), (0, u "rint"), (36, .class_ 100), (1, u "java/lang/Math$RandomNumberGeneratorHolder"), (23, u "abs"), (47, u "negativeZeroFloatBits"), (0, u "J"), (2, u "negativeZeroDoubleBits"), (68, u "$assertionsDisabled"), (0, u "Z"), (54, u "copySign"), (36, u "twoToTheDoubleScaleDown"), (0, u "D"), (4, u "twoToTheDoubleScaleUp"), (9, u "E"), (3, u "PI"), (2, u "TAU"), (2, u "DEGREES_TO_RADIANS"), (0, u "RADIANS_TO_DEGREES")] 94

def k10m0 : Method := { name := "<init>", desc := "()V", sig := { parameters := [], returnType := none }, accessFlags := 2, code := none }
def k10c1 : Code := { maxStack := 2, maxLocals := 2, code := jdk_29_method_18_code, exceptionTable := #[], attributes := #[] }
def k10m1 : Method := { name := "rint", desc := "(D)D", sig := { parameters := [.double], returnType := some .double }, accessFlags := 9, code := some k10c1 }
def k10c2 : Code := { maxStack := 4, maxLocals := 2, code := jdk_29_method_64_code, exceptionTable := #[], attributes := #[] }
def k10m2 : Method := { name := "abs", desc := "(D)D", sig := { parameters := [.double], returnType := some .double }, accessFlags := 9, code := some k10c2 }
def k10c3 : Code := { maxStack := 6, maxLocals := 4, code := jdk_29_method_89_code, exceptionTable := #[], attributes := #[] }
def k10m3 : Method := { name := "copySign", desc := "(DD)D", sig := { parameters := [.double, .double], returnType := some .double }, accessFlags := 9, code := some k10c3 }
/-- java/lang/Math -/
def k10 : Class := { plain "java/lang/Math" (some 0) with
  accessFlags := 49
  interfaces := #[]
  cf := some (fileOf pool10 1 #[.nestMembers #[98]] #[{ accessFlags := 2, nameIndex := 7, descriptorIndex := 8, attributes := #[] }, { accessFlags := 9, nameIndex := 61, descriptorIndex := 14, attributes := #[] }, { accessFlags := 9, nameIndex := 124, descriptorIndex := 14, attributes := #[] }, { accessFlags := 9, nameIndex := 301, descriptorIndex := 52, attributes := #[] }] 49 4 #[] #[{ accessFlags := 25, nameIndex := 354, descriptorIndex := 339, attributes := #[] }, { accessFlags := 25, nameIndex := 358, descriptorIndex := 339, attributes := #[] }, { accessFlags := 25, nameIndex := 361, descriptorIndex := 339, attributes := #[] }, { accessFlags := 26, nameIndex := 364, descriptorIndex := 339, attributes := #[] }, { accessFlags := 26, nameIndex := 365, descriptorIndex := 339, attributes := #[] }, { accessFlags := 26, nameIndex := 172, descriptorIndex := 173, attributes := #[] }, { accessFlags := 26, nameIndex := 176, descriptorIndex := 173, attributes := #[] }, { accessFlags := 8, nameIndex := 344, descriptorIndex := 339, attributes := #[] }, { accessFlags := 8, nameIndex := 338, descriptorIndex := 339, attributes := #[] }, { accessFlags := 4120, nameIndex := 245, descriptorIndex := 246, attributes := #[] }])
  fields := #[{ name := "E", type := .double, accessFlags := 25, slot := 0, constantValue := 0 }, { name := "PI", type := .double, accessFlags := 25, slot := 1, constantValue := 0 }, { name := "TAU", type := .double, accessFlags := 25, slot := 2, constantValue := 0 }, { name := "DEGREES_TO_RADIANS", type := .double, accessFlags := 26, slot := 3, constantValue := 0 }, { name := "RADIANS_TO_DEGREES", type := .double, accessFlags := 26, slot := 4, constantValue := 0 }, { name := "negativeZeroFloatBits", type := .long, accessFlags := 26, slot := 5, constantValue := 0 }, { name := "negativeZeroDoubleBits", type := .long, accessFlags := 26, slot := 6, constantValue := 0 }, { name := "twoToTheDoubleScaleUp", type := .double, accessFlags := 8, slot := 7, constantValue := 0 }, { name := "twoToTheDoubleScaleDown", type := .double, accessFlags := 8, slot := 8, constantValue := 0 }, { name := "$assertionsDisabled", type := .boolean, accessFlags := 4120, slot := 9, constantValue := 0 }]
  methods := #[k10m0, k10m1, k10m2, k10m3]
  instanceTypes := #[]
  staticTypes := #[.double, .double, .double, .double, .double, .long, .long, .double, .double, .boolean]
  resolved := Array.replicate 460 none
  statics := none }

def pool11 : Array CpInfo := pool [(1, .class_ 2), (0, u "java/lang/StrictMath"), (1, .class_ 6), (1, u "java/lang/Object"), (0, u "<init>"), (0, u "()V"), (5, u "(D)D"), (16, .class_ 33), (1, u "java/lang/Math"), (23, u "(DD)D"), (14, u "$assertionsDisabled"), (0, u "Z"), (19, .double 4841369599423283200), (1, .methodref 31 96), (0, .nameAndType 97 57), (0, u "copySign"), (0, .methodref 31 99), (0, .nameAndType 100 14), (0, u "abs"), (13, .class_ 116), (1, u "java/lang/StrictMath$RandomNumberGeneratorHolder"), (222, u "E"), (0, u "D"), (3, u "PI"), (2, u "TAU"), (38, u "rint")] 49

def k11m0 : Method := { name := "<init>", desc := "()V", sig := { parameters := [], returnType := none }, accessFlags := 2, code := none }
def k11c1 : Code := { maxStack := 4, maxLocals := 6, code := jdk_128_method_19_code, exceptionTable := #[], attributes := #[] }
def k11m1 : Method := { name := "rint", desc := "(D)D", sig := { parameters := [.double], returnType := some .double }, accessFlags := 9, code := some k11c1 }
/-- java/lang/StrictMath -/
def k11 : Class := { plain "java/lang/StrictMath" (some 0) with
  accessFlags := 49
  interfaces := #[]
  cf := some (fileOf pool11 1 #[.nestMembers #[114]] #[{ accessFlags := 2, nameIndex := 7, descriptorIndex := 8, attributes := #[] }, { accessFlags := 9, nameIndex := 386, descriptorIndex := 14, attributes := #[] }] 49 4 #[] #[{ accessFlags := 25, nameIndex := 339, descriptorIndex := 340, attributes := #[] }, { accessFlags := 25, nameIndex := 344, descriptorIndex := 340, attributes := #[] }, { accessFlags := 25, nameIndex := 347, descriptorIndex := 340, attributes := #[] }, { accessFlags := 4120, nameIndex := 72, descriptorIndex := 73, attributes := #[] }])
  fields := #[{ name := "E", type := .double, accessFlags := 25, slot := 0, constantValue := 0 }, { name := "PI", type := .double, accessFlags := 25, slot := 1, constantValue := 0 }, { name := "TAU", type := .double, accessFlags := 25, slot := 2, constantValue := 0 }, { name := "$assertionsDisabled", type := .boolean, accessFlags := 4120, slot := 3, constantValue := 0 }]
  methods := #[k11m0, k11m1]
  instanceTypes := #[]
  staticTypes := #[.double, .double, .double, .boolean]
  resolved := Array.replicate 436 none
  statics := none }

def pool12 : Array CpInfo := pool [(4, .class_ 6), (1, u "java/lang/Object"), (0, u "<init>"), (0, u "()V"), (5, .class_ 16), (1, u "java/lang/StringLatin1"), (104, u "$assertionsDisabled"), (0, u "Z"), (98, .class_ 223), (1, u "java/lang/StringLatin1$LinesSpliterator"), (166, .class_ 391), (0, u "java/lang/StringLatin1$CharsSpliterator")] 3

def k12m0 : Method := { name := "<init>", desc := "()V", sig := { parameters := [], returnType := none }, accessFlags := 0, code := none }
/-- java/lang/StringLatin1 -/
def k12 : Class := { plain "java/lang/StringLatin1" (some 0) with
  accessFlags := 48
  interfaces := #[]
  cf := some (fileOf pool12 14 #[.nestMembers #[390, 221]] #[{ accessFlags := 0, nameIndex := 7, descriptorIndex := 8, attributes := #[] }] 48 4 #[] #[{ accessFlags := 4120, nameIndex := 121, descriptorIndex := 122, attributes := #[] }])
  fields := #[{ name := "$assertionsDisabled", type := .boolean, accessFlags := 4120, slot := 0, constantValue := 0 }]
  methods := #[k12m0]
  instanceTypes := #[]
  staticTypes := #[.boolean]
  resolved := Array.replicate 395 none
  statics := none }

def pool13 : Array CpInfo := pool [(2, .class_ 4), (1, u "java/lang/Object"), (0, u "<init>"), (0, u "()V"), (17, .class_ 26), (1, u "jdk/internal/util/Preconditions"), (28, .class_ 56), (0, u "jdk/internal/util/Preconditions$4"), (57, .class_ 115), (0, u "jdk/internal/util/Preconditions$1"), (7, u "SIOOBE_FORMATTER"), (0, u "Ljava/util/function/BiFunction;"), (0, .class_ 126), (0, u "jdk/internal/util/Preconditions$2"), (3, u "AIOOBE_FORMATTER"), (0, .class_ 132), (0, u "jdk/internal/util/Preconditions$3"), (3, u "IOOBE_FORMATTER")] 57

def k13m0 : Method := { name := "<init>", desc := "()V", sig := { parameters := [], returnType := none }, accessFlags := 1, code := none }
/-- jdk/internal/util/Preconditions -/
def k13 : Class := { plain "jdk/internal/util/Preconditions" (some 0) with
  accessFlags := 33
  interfaces := #[]
  cf := some (fileOf pool13 24 #[.nestMembers #[55, 131, 125, 114]] #[{ accessFlags := 1, nameIndex := 5, descriptorIndex := 6, attributes := #[] }] 33 2 #[] #[{ accessFlags := 25, nameIndex := 123, descriptorIndex := 124, attributes := #[] }, { accessFlags := 25, nameIndex := 130, descriptorIndex := 124, attributes := #[] }, { accessFlags := 25, nameIndex := 136, descriptorIndex := 124, attributes := #[] }])
  fields := #[{ name := "SIOOBE_FORMATTER", type := (.object "java/util/function/BiFunction"), accessFlags := 25, slot := 0, constantValue := 0 }, { name := "AIOOBE_FORMATTER", type := (.object "java/util/function/BiFunction"), accessFlags := 25, slot := 1, constantValue := 0 }, { name := "IOOBE_FORMATTER", type := (.object "java/util/function/BiFunction"), accessFlags := 25, slot := 2, constantValue := 0 }]
  methods := #[k13m0]
  instanceTypes := #[]
  staticTypes := #[(.object "java/util/function/BiFunction"), (.object "java/util/function/BiFunction"), (.object "java/util/function/BiFunction")]
  resolved := Array.replicate 194 none
  statics := some 1 }

def pool14 : Array CpInfo := pool [(9, u "<init>"), (6, .class_ 18), (1, u "java/lang/Object"), (0, u "()V"), (1, .class_ 23), (1, u "jdk/internal/util/ArraysSupport"), (0, u "LOG2_ARRAY_LONG_INDEX_SCALE"), (0, u "I"), (2, u "U"), (0, u "Ljdk/internal/misc/Unsafe;"), (8, u "BIG_ENDIAN"), (0, u "Z"), (8, u "LOG2_BYTE_BIT_SIZE"), (4, u "LOG2_ARRAY_INT_INDEX_SCALE"), (54, u "JLA"), (0, u "Ljdk/internal/access/JavaLangAccess;"), (11, u "LOG2_ARRAY_BOOLEAN_INDEX_SCALE"), (9, u "LOG2_ARRAY_BYTE_INDEX_SCALE"), (5, u "LOG2_ARRAY_CHAR_INDEX_SCALE"), (5, u "LOG2_ARRAY_SHORT_INDEX_SCALE"), (18, u "LOG2_ARRAY_FLOAT_INDEX_SCALE"), (24, u "LOG2_ARRAY_DOUBLE_INDEX_SCALE"), (89, u "T_BOOLEAN"), (2, u "T_CHAR"), (1, u "T_FLOAT"), (1, u "T_DOUBLE"), (1, u "T_BYTE"), (1, u "T_SHORT"), (1, u "T_INT"), (1, u "T_LONG"), (1, u "SOFT_MAX_ARRAY_LENGTH")] 83

def k14m0 : Method := { name := "<init>", desc := "()V", sig := { parameters := [], returnType := none }, accessFlags := 2, code := none }
/-- jdk/internal/util/ArraysSupport -/
def k14 : Class := { plain "jdk/internal/util/ArraysSupport" (some 0) with
  accessFlags := 33
  interfaces := #[]
  cf := some (fileOf pool14 21 #[] #[{ accessFlags := 2, nameIndex := 9, descriptorIndex := 19, attributes := #[] }] 33 16 #[] #[{ accessFlags := 24, nameIndex := 28, descriptorIndex := 29, attributes := #[] }, { accessFlags := 26, nameIndex := 38, descriptorIndex := 39, attributes := #[] }, { accessFlags := 25, nameIndex := 121, descriptorIndex := 25, attributes := #[] }, { accessFlags := 25, nameIndex := 131, descriptorIndex := 25, attributes := #[] }, { accessFlags := 25, nameIndex := 137, descriptorIndex := 25, attributes := #[] }, { accessFlags := 25, nameIndex := 143, descriptorIndex := 25, attributes := #[] }, { accessFlags := 25, nameIndex := 53, descriptorIndex := 25, attributes := #[] }, { accessFlags := 25, nameIndex := 24, descriptorIndex := 25, attributes := #[] }, { accessFlags := 25, nameIndex := 162, descriptorIndex := 25, attributes := #[] }, { accessFlags := 25, nameIndex := 187, descriptorIndex := 25, attributes := #[] }, { accessFlags := 26, nameIndex := 48, descriptorIndex := 25, attributes := #[] }, { accessFlags := 25, nameIndex := 277, descriptorIndex := 25, attributes := #[] }, { accessFlags := 25, nameIndex := 280, descriptorIndex := 25, attributes := #[] }, { accessFlags := 25, nameIndex := 282, descriptorIndex := 25, attributes := #[] }, { accessFlags := 25, nameIndex := 284, descriptorIndex := 25, attributes := #[] }, { accessFlags := 25, nameIndex := 286, descriptorIndex := 25, attributes := #[] }, { accessFlags := 25, nameIndex := 288, descriptorIndex := 25, attributes := #[] }, { accessFlags := 25, nameIndex := 290, descriptorIndex := 25, attributes := #[] }, { accessFlags := 25, nameIndex := 292, descriptorIndex := 25, attributes := #[] }, { accessFlags := 26, nameIndex := 108, descriptorIndex := 109, attributes := #[] }, { accessFlags := 25, nameIndex := 294, descriptorIndex := 25, attributes := #[] }])
  fields := #[{ name := "U", type := (.object "jdk/internal/misc/Unsafe"), accessFlags := 24, slot := 0, constantValue := 0 }, { name := "BIG_ENDIAN", type := .boolean, accessFlags := 26, slot := 1, constantValue := 0 }, { name := "LOG2_ARRAY_BOOLEAN_INDEX_SCALE", type := .int, accessFlags := 25, slot := 2, constantValue := 0 }, { name := "LOG2_ARRAY_BYTE_INDEX_SCALE", type := .int, accessFlags := 25, slot := 3, constantValue := 0 }, { name := "LOG2_ARRAY_CHAR_INDEX_SCALE", type := .int, accessFlags := 25, slot := 4, constantValue := 0 }, { name := "LOG2_ARRAY_SHORT_INDEX_SCALE", type := .int, accessFlags := 25, slot := 5, constantValue := 0 }, { name := "LOG2_ARRAY_INT_INDEX_SCALE", type := .int, accessFlags := 25, slot := 6, constantValue := 0 }, { name := "LOG2_ARRAY_LONG_INDEX_SCALE", type := .int, accessFlags := 25, slot := 7, constantValue := 0 }, { name := "LOG2_ARRAY_FLOAT_INDEX_SCALE", type := .int, accessFlags := 25, slot := 8, constantValue := 0 }, { name := "LOG2_ARRAY_DOUBLE_INDEX_SCALE", type := .int, accessFlags := 25, slot := 9, constantValue := 0 }, { name := "LOG2_BYTE_BIT_SIZE", type := .int, accessFlags := 26, slot := 10, constantValue := 0 }, { name := "T_BOOLEAN", type := .int, accessFlags := 25, slot := 11, constantValue := 0 }, { name := "T_CHAR", type := .int, accessFlags := 25, slot := 12, constantValue := 0 }, { name := "T_FLOAT", type := .int, accessFlags := 25, slot := 13, constantValue := 0 }, { name := "T_DOUBLE", type := .int, accessFlags := 25, slot := 14, constantValue := 0 }, { name := "T_BYTE", type := .int, accessFlags := 25, slot := 15, constantValue := 0 }, { name := "T_SHORT", type := .int, accessFlags := 25, slot := 16, constantValue := 0 }, { name := "T_INT", type := .int, accessFlags := 25, slot := 17, constantValue := 0 }, { name := "T_LONG", type := .int, accessFlags := 25, slot := 18, constantValue := 0 }, { name := "JLA", type := (.object "jdk/internal/access/JavaLangAccess"), accessFlags := 26, slot := 19, constantValue := 0 }, { name := "SOFT_MAX_ARRAY_LENGTH", type := .int, accessFlags := 25, slot := 20, constantValue := 0 }]
  methods := #[k14m0]
  instanceTypes := #[]
  staticTypes := #[(.object "jdk/internal/misc/Unsafe"), .boolean, .int, .int, .int, .int, .int, .int, .int, .int, .int, .int, .int, .int, .int, .int, .int, .int, .int, (.object "jdk/internal/access/JavaLangAccess"), .int]
  resolved := Array.replicate 378 none
  statics := none }

def pool15 : Array CpInfo := pool [(1, u "java/lang/Cloneable"), (0, .class_ 1), (0, u "java/lang/Object"), (0, .class_ 3)] 3

/-- java/lang/Cloneable -/
def k15 : Class := { plain "java/lang/Cloneable" (some 0) with
  accessFlags := 1537
  interfaces := #[]
  cf := some (fileOf pool15 2 #[] #[] 1537 4 #[] #[])
  fields := #[]
  methods := #[]
  instanceTypes := #[]
  staticTypes := #[]
  resolved := Array.replicate 8 none
  statics := none }

/-- the primitive byte -/
def k16 : Class := { plain "byte" none with kind := .primitive 'B', accessFlags := 0x411 }
/-- [B -/
def k17 : Class := { plain "[B" (some 0) with kind := .array 16 .byte, interfaces := #[15, 2], accessFlags := 1041 }

/-- the primitive char -/
def k18 : Class := { plain "char" none with kind := .primitive 'C', accessFlags := 0x411 }
/-- [C -/
def k19 : Class := { plain "[C" (some 0) with kind := .array 18 .char, interfaces := #[15, 2], accessFlags := 1041 }

def heap : Heap := #[{ cls := 7, slots := #[.long 0, .int 1, .null, .int 0, .null, .int 0, .int 0], vm := .statics 7 },
  { cls := 13, slots := #[.null, .null, .null], vm := .statics 13 }]
def classes : Array Class := #[k0, k1, k2, k3, k4, k5, k6, k7, k8, k9, k10, k11, k12, k13, k14, k15, k16, k17, k18, k19]
def interned : List (Array UInt16 × Addr) := []
def slotsUsed : Nat := 10
def theMethod : MethodId := ⟨1, 1⟩
def args0 : Array Value := #[.long 5, .int 5, .int 5]
def aboutOver (below : List Frame) : State where
  vm := { classes := classes, interned := interned.toArray }
  heap := heap
  slotsUsed := slotsUsed
  threads := #[{ frames := .invoking theMethod args0 :: below }]
def below0 : List Frame := [.native { method := ⟨0, 0⟩, args := #[] }]
def about1 : State := aboutOver below0
def p0 : Program := .bare "" "" ""
def e0 : Env := launch0.env 0 0 0
theorem w_frames : about1.frames = Frame.invoking theMethod args0 :: below0 := rfl
set_option maxRecDepth 65536 in
theorem w_args : argsFit about1.vm theMethod args0 = true := by decide +kernel
set_option maxRecDepth 65536 in
theorem w_heap : heapFits about1 = true := by decide +kernel
set_option maxRecDepth 65536 in
theorem w_runnable : about1.curStatus? = some .runnable := by decide +kernel
set_option maxRecDepth 65536 in
theorem w_alone : about1.alone = true := by decide +kernel
set_option maxRecDepth 65536 in
theorem w_named : about1.methodNamed? x = some theMethod := by decide +kernel
set_option maxRecDepth 65536 in
theorem w_hears : about1.hears theMethod below0 = true := by decide +kernel
set_option maxRecDepth 65536 in
theorem w_ripe : about1.ripe theMethod args0 below0 = true := by decide +kernel
theorem w_running : about1.status = .running := rfl
set_option maxRecDepth 65536 in
theorem w_room : about1.hasRoom e0.platform room_1 = true :=
  launch0.hasRoom_least _ room_1 (by decide +kernel) (by decide +kernel) (by decide +kernel) (by decide +kernel) (by decide +kernel) (by decide +kernel)
theorem allAtoms_all (ts : List Jvm.Cond) (a : Array Jvm.Value) (st : Jvm.State) : (allAtoms ts).before a st = ts.all (fun c => c.before a st) := by
  induction ts with
  | nil => rfl
  | cons c t ih =>
    show (Jvm.Cond.and c (allAtoms t)).before a st = _
    rw [Jvm.Cond.before_and, ih, List.all_cons]
def words1 : List Jvm.Cond := Jvm.Cond.code x code maxLocals ret :: tables_1
/-- a 'code' word, met by the world's own term for the bytes: nothing is compared byte by byte -/
theorem code_word {y : MethodName} {bytes : ByteArray} {mx : Nat} {rt : Option FieldType} {a : Array Value} {s : State} {m : MethodId} {meth : Method} {c : Code} (h1 : s.methodNamed? y = some m) (h2 : s.vm.method? m = some meth) (h3 : meth.code = some c) (h4 : c.code = bytes)
    (h5 : (c.maxLocals == mx && c.exceptionTable.isEmpty && decide (c.maxStack ≤ mostOperands) && decide (meth.sig.returnType = rt) && !meth.locks && decide (parseMethodDescriptor y.desc = some meth.sig)) = true) : (Jvm.Cond.code y bytes mx rt).before a s = true := by
  simp only [Bool.and_eq_true, beq_iff_eq, Bool.not_eq_true', decide_eq_true_eq] at h5
  obtain ⟨⟨⟨⟨⟨g1, g2⟩, g3⟩, g4⟩, g5⟩, g6⟩ := h5
  simp [Cond.before, Cond.holds, Cond.value, h1, h2, h3, h4, g1, g2, g3, g4, g5, g6]
def isCode : Jvm.Cond → Bool
  | .code _ _ _ _ => true
  | _ => false
theorem all_split {L : List Jvm.Cond} {P : Jvm.Cond → Bool} (h1 : L.all (fun c => isCode c || P c) = true) (h2 : ∀ c ∈ L.filter isCode, P c = true) : L.all P = true := by
  refine List.all_eq_true.mpr fun c hc => ?_
  have h := List.all_eq_true.mp h1 c hc
  rcases Bool.eq_false_or_eq_true (isCode c) with hi | hi
  · exact h2 c (List.mem_filter.mpr ⟨hc, hi⟩)
  · simpa [hi] using h
set_option maxRecDepth 65536 in
theorem w_c0 : (Jvm.Cond.code x code maxLocals ret).before args0 about1 = true := code_word (m := ⟨1, 1⟩) (meth := k1m1) (c := k1c1) (by decide +kernel) rfl rfl rfl (by decide +kernel)
set_option maxRecDepth 65536 in
theorem w_c1 : (Jvm.Cond.code ({ cls := "java/lang/String", name := "<init>", desc := "([C)V" } : Jvm.MethodName) jdk_42_method_3_code (2 : Nat) (Option.none : Option Jvm.ClassFile.FieldType)).before args0 about1 = true := code_word (m := ⟨7, 1⟩) (meth := k7m1) (c := k7c1) (by decide +kernel) rfl rfl rfl (by decide +kernel)
set_option maxRecDepth 65536 in
theorem w_c2 : (Jvm.Cond.code ({ cls := "java/lang/String", name := "<init>", desc := "([CIILjava/lang/Void;)V" } : Jvm.MethodName) jdk_42_method_149_code (6 : Nat) (Option.none : Option Jvm.ClassFile.FieldType)).before args0 about1 = true := code_word (m := ⟨7, 2⟩) (meth := k7m2) (c := k7c2) (by decide +kernel) rfl rfl rfl (by decide +kernel)
set_option maxRecDepth 65536 in
theorem w_c3 : (Jvm.Cond.code ({ cls := "java/lang/Object", name := "<init>", desc := "()V" } : Jvm.MethodName) object_method_1_code (1 : Nat) (Option.none : Option Jvm.ClassFile.FieldType)).before args0 about1 = true := code_word (m := ⟨0, 0⟩) (meth := k0m0) (c := k0c0) (by decide +kernel) rfl rfl rfl (by decide +kernel)
set_option maxRecDepth 65536 in
theorem w_c4 : (Jvm.Cond.code ({ cls := "java/lang/StringUTF16", name := "compress", desc := "([CII)[B" } : Jvm.MethodName) jdk_52_method_16_code (6 : Nat) (Option.some (Jvm.ClassFile.FieldType.array Jvm.ClassFile.FieldType.byte))).before args0 about1 = true := code_word (m := ⟨8, 2⟩) (meth := k8m2) (c := k8c2) (by decide +kernel) rfl rfl rfl (by decide +kernel)
set_option maxRecDepth 65536 in
theorem w_c5 : (Jvm.Cond.code ({ cls := "java/lang/StringUTF16", name := "compress", desc := "([CI[BII)I" } : Jvm.MethodName) jdk_52_method_21_code (7 : Nat) (Option.some Jvm.ClassFile.FieldType.int)).before args0 about1 = true := code_word (m := ⟨8, 3⟩) (meth := k8m3) (c := k8c3) (by decide +kernel) rfl rfl rfl (by decide +kernel)
set_option maxRecDepth 65536 in
theorem w_c6 : (Jvm.Cond.code ({ cls := "java/lang/StringUTF16", name := "coderFromArrayLen", desc := "([BI)B" } : Jvm.MethodName) jdk_52_method_15_code (2 : Nat) (Option.some Jvm.ClassFile.FieldType.byte)).before args0 about1 = true := code_word (m := ⟨8, 1⟩) (meth := k8m1) (c := k8c1) (by decide +kernel) rfl rfl rfl (by decide +kernel)
set_option maxRecDepth 65536 in
theorem w_c7 : (Jvm.Cond.code ({ cls := "com/example/sorted_set_patterns/sortedsetpatterns/Scores", name := "toScore", desc := "(Ljava/lang/String;J)D" } : Jvm.MethodName) prog_6_method_2_code (3 : Nat) (Option.some Jvm.ClassFile.FieldType.double)).before args0 about1 = true := code_word (m := ⟨9, 1⟩) (meth := k9m1) (c := k9c1) (by decide +kernel) rfl rfl rfl (by decide +kernel)
set_option maxRecDepth 65536 in
theorem w_c8 : (Jvm.Cond.code ({ cls := "com/example/sorted_set_patterns/sortedsetpatterns/Scores", name := "toValue", desc := "(Ljava/lang/String;D)J" } : Jvm.MethodName) prog_6_method_3_code (3 : Nat) (Option.some Jvm.ClassFile.FieldType.long)).before args0 about1 = true := code_word (m := ⟨9, 2⟩) (meth := k9m2) (c := k9c2) (by decide +kernel) rfl rfl rfl (by decide +kernel)
set_option maxRecDepth 65536 in
theorem w_c9 : (Jvm.Cond.code ({ cls := "java/lang/Math", name := "rint", desc := "(D)D" } : Jvm.MethodName) jdk_29_method_18_code (2 : Nat) (Option.some Jvm.ClassFile.FieldType.double)).before args0 about1 = true := code_word (m := ⟨10, 1⟩) (meth := k10m1) (c := k10c1) (by decide +kernel) rfl rfl rfl (by decide +kernel)
set_option maxRecDepth 65536 in
theorem w_c10 : (Jvm.Cond.code ({ cls := "java/lang/StrictMath", name := "rint", desc := "(D)D" } : Jvm.MethodName) jdk_128_method_19_code (6 : Nat) (Option.some Jvm.ClassFile.FieldType.double)).before args0 about1 = true := code_word (m := ⟨11, 1⟩) (meth := k11m1) (c := k11c1) (by decide +kernel) rfl rfl rfl (by decide +kernel)
set_option maxRecDepth 65536 in
theorem w_c11 : (Jvm.Cond.code ({ cls := "java/lang/Math", name := "copySign", desc := "(DD)D" } : Jvm.MethodName) jdk_29_method_89_code (4 : Nat) (Option.some Jvm.ClassFile.FieldType.double)).before args0 about1 = true := code_word (m := ⟨10, 3⟩) (meth := k10m3) (c := k10c3) (by decide +kernel) rfl rfl rfl (by decide +kernel)
set_option maxRecDepth 65536 in
theorem w_c12 : (Jvm.Cond.code ({ cls := "java/lang/Math", name := "abs", desc := "(D)D" } : Jvm.MethodName) jdk_29_method_64_code (2 : Nat) (Option.some Jvm.ClassFile.FieldType.double)).before args0 about1 = true := code_word (m := ⟨10, 2⟩) (meth := k10m2) (c := k10c2) (by decide +kernel) rfl rfl rfl (by decide +kernel)
def codes1 : List Jvm.Cond := [Jvm.Cond.code x code maxLocals ret, Jvm.Cond.code ({ cls := "java/lang/String", name := "<init>", desc := "([C)V" } : Jvm.MethodName) jdk_42_method_3_code (2 : Nat) (Option.none : Option Jvm.ClassFile.FieldType), Jvm.Cond.code ({ cls := "java/lang/String", name := "<init>", desc := "([CIILjava/lang/Void;)V" } : Jvm.MethodName) jdk_42_method_149_code (6 : Nat) (Option.none : Option Jvm.ClassFile.FieldType), Jvm.Cond.code ({ cls := "java/lang/Object", name := "<init>", desc := "()V" } : Jvm.MethodName) object_method_1_code (1 : Nat) (Option.none : Option Jvm.ClassFile.FieldType), Jvm.Cond.code ({ cls := "java/lang/StringUTF16", name := "compress", desc := "([CII)[B" } : Jvm.MethodName) jdk_52_method_16_code (6 : Nat) (Option.some (Jvm.ClassFile.FieldType.array Jvm.ClassFile.FieldType.byte)), Jvm.Cond.code ({ cls := "java/lang/StringUTF16", name := "compress", desc := "([CI[BII)I" } : Jvm.MethodName) jdk_52_method_21_code (7 : Nat) (Option.some Jvm.ClassFile.FieldType.int), Jvm.Cond.code ({ cls := "java/lang/StringUTF16", name := "coderFromArrayLen", desc := "([BI)B" } : Jvm.MethodName) jdk_52_method_15_code (2 : Nat) (Option.some Jvm.ClassFile.FieldType.byte), Jvm.Cond.code ({ cls := "com/example/sorted_set_patterns/sortedsetpatterns/Scores", name := "toScore", desc := "(Ljava/lang/String;J)D" } : Jvm.MethodName) prog_6_method_2_code (3 : Nat) (Option.some Jvm.ClassFile.FieldType.double), Jvm.Cond.code ({ cls := "com/example/sorted_set_patterns/sortedsetpatterns/Scores", name := "toValue", desc := "(Ljava/lang/String;D)J" } : Jvm.MethodName) prog_6_method_3_code (3 : Nat) (Option.some Jvm.ClassFile.FieldType.long), Jvm.Cond.code ({ cls := "java/lang/Math", name := "rint", desc := "(D)D" } : Jvm.MethodName) jdk_29_method_18_code (2 : Nat) (Option.some Jvm.ClassFile.FieldType.double), Jvm.Cond.code ({ cls := "java/lang/StrictMath", name := "rint", desc := "(D)D" } : Jvm.MethodName) jdk_128_method_19_code (6 : Nat) (Option.some Jvm.ClassFile.FieldType.double), Jvm.Cond.code ({ cls := "java/lang/Math", name := "copySign", desc := "(DD)D" } : Jvm.MethodName) jdk_29_method_89_code (4 : Nat) (Option.some Jvm.ClassFile.FieldType.double), Jvm.Cond.code ({ cls := "java/lang/Math", name := "abs", desc := "(D)D" } : Jvm.MethodName) jdk_29_method_64_code (2 : Nat) (Option.some Jvm.ClassFile.FieldType.double)]
set_option maxRecDepth 65536 in
theorem codes_eq : words1.filter isCode = codes1 := rfl
theorem w_codes : ∀ c ∈ words1.filter isCode, c.before args0 about1 = true := by
  rw [codes_eq]
  intro c hc
  simp only [codes1, List.mem_cons, List.not_mem_nil, or_false] at hc
  rcases hc with rfl | rfl | rfl | rfl | rfl | rfl | rfl | rfl | rfl | rfl | rfl | rfl | rfl
  · exact w_c0
  · exact w_c1
  · exact w_c2
  · exact w_c3
  · exact w_c4
  · exact w_c5
  · exact w_c6
  · exact w_c7
  · exact w_c8
  · exact w_c9
  · exact w_c10
  · exact w_c11
  · exact w_c12
set_option maxRecDepth 65536 in
theorem w_t1 : (words1.take 24).all (fun c => isCode c || c.before args0 about1) = true := by decide +kernel
set_option maxRecDepth 65536 in
theorem w_t2 : ((words1.drop 24).take 24).all (fun c => isCode c || c.before args0 about1) = true := by decide +kernel
set_option maxRecDepth 65536 in
theorem w_t3 : ((words1.drop 24).drop 24).all (fun c => isCode c || c.before args0 about1) = true := by decide +kernel
theorem w_tables : (allAtoms (Jvm.Cond.code x code maxLocals ret :: tables_1)).before args0 about1 = true := by
  rw [allAtoms_all]
  show words1.all (fun c => c.before args0 about1) = true
  refine all_split ?_ w_codes
  rw [← List.take_append_drop 24 words1, List.all_append, w_t1, ← List.take_append_drop 24 (words1.drop 24), List.all_append, w_t2, w_t3]
  rfl
set_option maxRecDepth 65536 in
theorem w_rest : rest_1_c.before args0 about1 = true := by decide +kernel
set_option maxRecDepth 65536 in
theorem w_case : (Jvm.Cond.and given_1 narrow_1).before args0 about1 = true := by decide +kernel
theorem w_applies : (headSpec (Jvm.Cond.code x code maxLocals ret :: tables_1) room_1).applies x e0.platform about1 = true :=
  (Spec.applies_iff w_frames).mpr ⟨w_running, w_runnable, w_alone, w_named, w_hears, w_ripe, w_room, w_tables⟩
theorem atStart : AtStart classFile x code maxLocals ret World_1 tables_1 room_1 Calls_1 rest_1 Pre_1 launch0 p0 e0 about1 theMethod args0 below0 :=
  ⟨lists_1, trivial, launch0.admits_env _ _ _, launch0.least_env, fairChoices_fair.cas, fairChoices_fair.clock, w_frames, w_args, w_heap, w_applies, trivial, w_rest, w_case⟩
end start1
theorem witness_1 : WitnessClaimed_1 := ⟨start1.p0, start1.e0, start1.about1, start1.theMethod, start1.args0, start1.below0, start1.atStart⟩
end Jvm.Pilot.@@N@@
