import JvmDerived
import JvmDerived.Pilot.@@N@@Statement
import JvmDerived.Pilot.@@N@@Code
set_option linter.unusedVariables false
set_option linter.unusedSimpArgs false
/- laws to paste: Road.backV (cut by pick.py; bodies as the Statement names them) -/
namespace Jvm.Pilot.@@N@@
namespace StrChars
open Jvm Sem ClassFile Op Lib Jvm.Stand Jvm.Free.XT Jvm.Free.ALB Jvm.Free.JM Jvm.Free
open Jvm.Lib.Cold (StaticIs)
/-- a char array whose places are chars -/
def Ch (a : Addr) (A : Cell) (U : State) : Prop := Arr .char a A U ∧ Typed .char A
theorem Ch.mv {a : Addr} {A : Cell} {U U' : State} (h : Ch a A U) (hal : U.vm.Alike U'.vm) (hh : U'.heap = U.heap) : Ch a A U' := ⟨h.1.mv hal hh, h.2⟩
theorem Ch.keep {a : Addr} {A : Cell} {U U' : State} (h : Ch a A U) (hal : U.vm.Alike U'.vm) (hk : U'.heap[a]? = some A) : Ch a A U' := ⟨h.1.keep hal hk, h.2⟩
/-- what place i of a char[]'s cell holds -/
def cv (A : Cell) (i : Nat) : Int32 := match A.slots[i]? with | some (.int x) => x | _ => 0
theorem Ch.get {a : Addr} {A : Cell} {U : State} (h : Ch a A U) {i : Nat} (hi : i < A.slots.size) : A.slots[i]? = some (.int (cv A i)) := by
  have e := Array.getElem?_eq_getElem hi
  have f := h.2 i _ e
  unfold cv; rw [e]
  generalize A.slots[i] = v at f
  cases v <;> simp [fits] at f ⊢
/-- the byte that i2b leaves of a char -/
def lo8 (x : Int32) : Int32 := x.toInt8.toInt32
theorem fits_lo8 (y : Int32) : fits .byte (.int (lo8 y)) = true := by
  have h1 := y.toInt8.le_toInt
  have h2 := y.toInt8.toInt_lt
  simp only [lo8, fits, Bool.and_eq_true, decide_eq_true_eq, Int32.le_iff_toInt_le, Int8.toInt_toInt32, show (-128 : Int32).toInt = -128 from by decide, show (127 : Int32).toInt = 127 from by decide]
  omega
/-- A' is A but that each place j of lo .. hi - 1 holds f j -/
def Laid (A A' : Cell) (lo hi : Nat) (f : Nat → Value) : Prop := A'.cls = A.cls ∧ A'.vm = A.vm ∧ A'.slots.size = A.slots.size ∧ ∀ i, A'.slots[i]? = if lo ≤ i ∧ i < hi then some (f i) else A.slots[i]?
theorem Laid.zero (A : Cell) (lo : Nat) (f : Nat → Value) : Laid A A lo (lo + 0) f := ⟨rfl, rfl, rfl, fun i => by rw [if_neg (by omega)]⟩
theorem Laid.step {A Ak : Cell} {lo k : Nat} {f : Nat → Value} {v : Value} (h : Laid A Ak lo k f) (hlo : lo ≤ k) (hk : k < Ak.slots.size) (hv : v = f k) : Laid A (Ak.setSlot k v) lo (k + 1) f := by
  refine ⟨h.1, h.2.1, by simpa [Cell.setSlot] using h.2.2.1, fun i => ?_⟩
  by_cases e : k = i
  · subst e; rw [Cell.slots_setSlot_self v hk, if_pos (by omega), hv]
  · rw [Cell.slots_setSlot_ne v e, h.2.2.2 i]
    by_cases q : lo ≤ i ∧ i < k
    · rw [if_pos q, if_pos (by omega)]
    · rw [if_neg q, if_neg (by omega)]
def U16 : String := "java/lang/StringUTF16"
namespace Cmp5
def yN : MethodName := ⟨"java/lang/StringUTF16", "compress", "([CI[BII)I"⟩
abbrev yB : ByteArray := jdk_52_method_21_code
theorem d0 : decode yB 0 = .ok (.iconst 0, 1) := by decide +kernel
theorem d1 : decode yB 1 = .ok (.istore 5, 2) := by decide +kernel
theorem d3 : decode yB 3 = .ok (.iload 5, 2) := by decide +kernel
theorem d5 : decode yB 5 = .ok (.iload 4, 2) := by decide +kernel
theorem d7 : decode yB 7 = .ok (.if_icmp (.ge) 37, 3) := by decide +kernel
theorem d10 : decode yB 10 = .ok (.aload_n 0, 1) := by decide +kernel
theorem d11 : decode yB 11 = .ok (.iload_n 1, 1) := by decide +kernel
theorem d12 : decode yB 12 = .ok (.caload, 1) := by decide +kernel
theorem d13 : decode yB 13 = .ok (.istore 6, 2) := by decide +kernel
theorem d15 : decode yB 15 = .ok (.iload 6, 2) := by decide +kernel
theorem d17 : decode yB 17 = .ok (.sipush 255, 3) := by decide +kernel
theorem d20 : decode yB 20 = .ok (.if_icmp (.le) 6, 3) := by decide +kernel
theorem d26 : decode yB 26 = .ok (.aload_n 2, 1) := by decide +kernel
theorem d27 : decode yB 27 = .ok (.iload_n 3, 1) := by decide +kernel
theorem d28 : decode yB 28 = .ok (.iload 6, 2) := by decide +kernel
theorem d30 : decode yB 30 = .ok (.i2b, 1) := by decide +kernel
theorem d31 : decode yB 31 = .ok (.bastore, 1) := by decide +kernel
theorem d32 : decode yB 32 = .ok (.iinc 1 1, 3) := by decide +kernel
theorem d35 : decode yB 35 = .ok (.iinc 3 1, 3) := by decide +kernel
theorem d38 : decode yB 38 = .ok (.iinc 5 1, 3) := by decide +kernel
theorem d41 : decode yB 41 = .ok (.goto (-38), 3) := by decide +kernel
theorem d44 : decode yB 44 = .ok (.iload 4, 2) := by decide +kernel
theorem d46 : decode yB 46 = .ok (.ireturn, 1) := by decide +kernel
def site : List Cond := []
def tab : Cond := tabOf yN yB 7 (some .int) site
def P (b : Addr) (A : Cell) (d : Addr) (B : Cell) (o q len : Nat) (args : Array Value) (s : State) : Prop := args = #[.ref b, .int (Int32.ofNat o), .ref d, .int (Int32.ofNat q), .int (Int32.ofNat len)] ∧ Ch b A s ∧ Arr .byte d B s ∧ b ≠ d ∧ o + len ≤ A.slots.size ∧ q + len ≤ B.slots.size ∧ ∀ i, i < len → ¬ 255 < cv A (o + i)
def E (b : Addr) (A : Cell) (d : Addr) (B : Cell) (o q len : Nat) (r : Option Value) (s u : State) : Prop := r = some (.int (Int32.ofNat len)) ∧ ∃ B', Put d B' s u ∧ Laid B B' q (q + len) (fun j => Value.int (lo8 (cv A (o + (j - q)))))
/-- no char of the range above 255: len; the places written hold each char's low byte -/
theorem law (l : Launch) (b : Addr) (A : Cell) (d : Addr) (B : Cell) (o q len : Nat) : Law l yN 5 5 0 0 yB 7 (some .int) site (P b A d B o q len) (E b A d B o q len) (copyLocs d q len) 0 0 := by
  refine Law.of_walk (plainFor_of_name (by decide +kernel)) (by decide +kernel) (by decide +kernel) (by decide) (fun _ _ h => by rw [h.1]; rfl) (fun _ U U' hal hh h => ⟨h.1, h.2.1.mv hal hh, h.2.2.1.mv hal hh, h.2.2.2⟩) (fun r U U' V V' h1 hal h2 h => ⟨h.1, h.2.elim fun B' q => ⟨B', q.1.mv h1 h2, q.2⟩⟩) ?_
  intro p e s m args below meth c s₁ X0 hexec hbytes hml hret hlk hnm hown hh0 W hP
  obtain ⟨rfl, hA, hB, hne, l1, l2, hp⟩ := hP
  have c1 : Steps p.tables e below (s₁.setTop (entryFrame m #[.ref b, .int (Int32.ofNat o), .ref d, .int (Int32.ofNat q), .int (Int32.ofNat len)] 7)) (s₁.setTop (mkF m 0 #[.val (.ref b), .val (.int (Int32.ofNat o)), .val (.ref d), .val (.int (Int32.ofNat q)), .val (.int (Int32.ofNat len)), .unset, .unset] [])) := entry rfl
  have hA0 := hA.1.mv X0.warmed.alike hh0
  have hB0 := hB.mv X0.warmed.alike hh0
  have a31 := hA.1.2.2.2
  have c2 : Steps p.tables e below (s₁.setTop (entryFrame m #[.ref b, .int (Int32.ofNat o), .ref d, .int (Int32.ofNat q), .int (Int32.ofNat len)] 7)) (s₁.setTop (mkF m 3 #[.val (.ref b), .val (.int (Int32.ofNat o)), .val (.ref d), .val (.int (Int32.ofNat q)), .val (.int (Int32.ofNat len)), .val (.int 0), .unset] [])) := c1.trans (by
    refine iconstV X0.here hexec rfl 0 (hb hbytes d0) (by decide) ?_
    refine XS.istore X0.here hexec rfl (hb hbytes d1) rfl rfl ?_
    exact Steps.refl _)
  have loop : ∀ (r i : Nat), i + r = len → ∀ (z : Slot), (z = .unset ∨ ∃ w, z = .val w ∧ w.category = 1) → ∀ (Tl : State) (Bk : Cell), Stand p l e { frames := 0, locals := 0, cells := 0, slots := 0 } s m #[.ref b, .int (Int32.ofNat o), .ref d, .int (Int32.ofNat q), .int (Int32.ofNat len)] below meth c Tl ([] ++ copyLocs d q i) 0 0 → Put d Bk s₁ Tl → Laid B Bk q (q + i) (fun j => Value.int (lo8 (cv A (o + (j - q))))) →
      Steps p.tables e below (s₁.setTop (entryFrame m #[.ref b, .int (Int32.ofNat o), .ref d, .int (Int32.ofNat q), .int (Int32.ofNat len)] 7)) (Tl.setTop (mkF m 3 #[.val (.ref b), .val (.int (Int32.ofNat (o + i))), .val (.ref d), .val (.int (Int32.ofNat (q + i))), .val (.int (Int32.ofNat len)), .val (.int (Int32.ofNat i)), z] [])) → ∃ (T' : State) (B' : Cell) (z' : Slot), Stand p l e { frames := 0, locals := 0, cells := 0, slots := 0 } s m #[.ref b, .int (Int32.ofNat o), .ref d, .int (Int32.ofNat q), .int (Int32.ofNat len)] below meth c T' ([] ++ copyLocs d q len) 0 0 ∧ Put d B' s₁ T' ∧ Laid B B' q (q + len) (fun j => Value.int (lo8 (cv A (o + (j - q))))) ∧
      Steps p.tables e below (s₁.setTop (entryFrame m #[.ref b, .int (Int32.ofNat o), .ref d, .int (Int32.ofNat q), .int (Int32.ofNat len)] 7)) (T'.setTop (mkF m 3 #[.val (.ref b), .val (.int (Int32.ofNat (o + len))), .val (.ref d), .val (.int (Int32.ofNat (q + len))), .val (.int (Int32.ofNat len)), .val (.int (Int32.ofNat len)), z'] [])) := by
    intro r
    induction r with
    | zero =>
      intro i hi z hz Tl Bk Xl pl fl cl
      have hil : i = len := by omega
      rw [hil] at Xl fl cl
      exact ⟨Tl, Bk, z, Xl, pl, fl, cl⟩
    | succ r ih =>
      intro i hi z hz Tl Bk Xl pl fl cl
      have all := X0.warmed.alike.symm.trans Xl.warmed.alike
      have hAl := hA0.keep all (pl.other hne hA0.1)
      have hBk := hB0.like all pl.1 fl.1 fl.2.1 fl.2.2.1
      have hlt : q + i < Bk.slots.size := by rw [fl.2.2.1]; omega
      have c3 : Steps p.tables e below (s₁.setTop (entryFrame m #[.ref b, .int (Int32.ofNat o), .ref d, .int (Int32.ofNat q), .int (Int32.ofNat len)] 7)) (Tl.setTop (mkF m 12 #[.val (.ref b), .val (.int (Int32.ofNat (o + i))), .val (.ref d), .val (.int (Int32.ofNat (q + i))), .val (.int (Int32.ofNat len)), .val (.int (Int32.ofNat i)), z] [.int (Int32.ofNat (o + i)), .ref b])) := cl.trans (by
        refine XS.iload Xl.here hexec rfl (hb hbytes d3) rfl ?_
        refine XS.iload Xl.here hexec rfl (hb hbytes d5) rfl ?_
        refine XS.icmpNo Xl.here hexec rfl (hb hbytes d7) rfl (ii_ge_f (lt32 (by omega) (by omega))) ?_
        refine XS.aloadN Xl.here hexec rfl (hb hbytes d10) rfl rfl ?_
        refine XS.iloadN Xl.here hexec rfl (hb hbytes d11) rfl ?_
        exact Steps.refl _)
      have c4 : Steps p.tables e below (s₁.setTop (entryFrame m #[.ref b, .int (Int32.ofNat o), .ref d, .int (Int32.ofNat q), .int (Int32.ofNat len)] 7)) (Tl.setTop (mkF m 13 #[.val (.ref b), .val (.int (Int32.ofNat (o + i))), .val (.ref d), .val (.int (Int32.ofNat (q + i))), .val (.int (Int32.ofNat len)), .val (.int (Int32.ofNat i)), z] [.int (cv A (o + i))])) := c3.trans (by
        refine Xl.aget hexec hAl rfl (hA.get (i := o + i) (by omega)) rfl rfl (hb hbytes d12) ?_
        exact Steps.refl _)
      have c5 : Steps p.tables e below (s₁.setTop (entryFrame m #[.ref b, .int (Int32.ofNat o), .ref d, .int (Int32.ofNat q), .int (Int32.ofNat len)] 7)) (Tl.setTop (mkF m 15 #[.val (.ref b), .val (.int (Int32.ofNat (o + i))), .val (.ref d), .val (.int (Int32.ofNat (q + i))), .val (.int (Int32.ofNat len)), .val (.int (Int32.ofNat i)), .val (.int (cv A (o + i)))] [])) := c4.trans (by
        refine XS.istoreS Xl.here hexec rfl (hb hbytes d13) rfl rfl hz ?_
        exact Steps.refl _)
      have c6 : Steps p.tables e below (s₁.setTop (entryFrame m #[.ref b, .int (Int32.ofNat o), .ref d, .int (Int32.ofNat q), .int (Int32.ofNat len)] 7)) (Tl.setTop (mkF m 31 #[.val (.ref b), .val (.int (Int32.ofNat (o + i))), .val (.ref d), .val (.int (Int32.ofNat (q + i))), .val (.int (Int32.ofNat len)), .val (.int (Int32.ofNat i)), .val (.int (cv A (o + i)))] [.int (lo8 (cv A (o + i))), .int (Int32.ofNat (q + i)), .ref d])) := c5.trans (by
        refine XS.iload Xl.here hexec rfl (hb hbytes d15) rfl ?_
        refine sipushV Xl.here hexec rfl 255 (hb hbytes d17) (by decide) ?_
        refine XS.icmpYes Xl.here hexec rfl (pc0 := 20) rfl (hb hbytes d20) rfl (ii_le_t (hp i (by omega))) (by decide) rfl ?_
        refine XS.aloadN Xl.here hexec rfl (hb hbytes d26) rfl rfl ?_
        refine XS.iloadN Xl.here hexec rfl (hb hbytes d27) rfl ?_
        refine XS.iload Xl.here hexec rfl (hb hbytes d28) rfl ?_
        refine i2b Xl.here hexec rfl (hb hbytes d30) rfl ?_
        exact Steps.refl _)
      obtain ⟨T7, X7, p7, st7⟩ := Xl.aput hexec hBk rfl hlt rfl (fits_lo8 (cv A (o + i))) (g := (mkF m 31 #[.val (.ref b), .val (.int (Int32.ofNat (o + i))), .val (.ref d), .val (.int (Int32.ofNat (q + i))), .val (.int (Int32.ofNat len)), .val (.int (Int32.ofNat i)), .val (.int (cv A (o + i)))] [.int (lo8 (cv A (o + i))), .int (Int32.ofNat (q + i)), .ref d])) rfl (rest := []) rfl (hb hbytes d31)
      have c8 : Steps p.tables e below (s₁.setTop (entryFrame m #[.ref b, .int (Int32.ofNat o), .ref d, .int (Int32.ofNat q), .int (Int32.ofNat len)] 7)) (T7.setTop (mkF m 32 #[.val (.ref b), .val (.int (Int32.ofNat (o + i))), .val (.ref d), .val (.int (Int32.ofNat (q + i))), .val (.int (Int32.ofNat len)), .val (.int (Int32.ofNat i)), .val (.int (cv A (o + i)))] [])) := c6.trans (st7 _ (Steps.refl _))
      have c9 : Steps p.tables e below (s₁.setTop (entryFrame m #[.ref b, .int (Int32.ofNat o), .ref d, .int (Int32.ofNat q), .int (Int32.ofNat len)] 7)) (T7.setTop (mkF m 3 #[.val (.ref b), .val (.int (Int32.ofNat (o + i) + 1)), .val (.ref d), .val (.int (Int32.ofNat (q + i) + 1)), .val (.int (Int32.ofNat len)), .val (.int (Int32.ofNat i + 1)), .val (.int (cv A (o + i)))] [])) := c8.trans (by
        refine iincV X7.here hexec rfl 1 (hb hbytes d32) (by decide) rfl rfl ?_
        refine iincV X7.here hexec rfl 1 (hb hbytes d35) (by decide) rfl rfl ?_
        refine iincV X7.here hexec rfl 1 (hb hbytes d38) (by decide) rfl rfl ?_
        refine XS.goto X7.here hexec rfl (pc0 := 41) rfl (hb hbytes d41) (by decide) rfl ?_
        exact Steps.refl _)
      have c10 : Steps p.tables e below (s₁.setTop (entryFrame m #[.ref b, .int (Int32.ofNat o), .ref d, .int (Int32.ofNat q), .int (Int32.ofNat len)] 7)) (T7.setTop (mkF m 3 #[.val (.ref b), .val (.int (Int32.ofNat (o + (i + 1)))), .val (.ref d), .val (.int (Int32.ofNat (q + (i + 1)))), .val (.int (Int32.ofNat len)), .val (.int (Int32.ofNat (i + 1))), .val (.int (cv A (o + i)))] [])) := by
        have := c9
        rw [succ32, succ32, succ32] at this
        exact this
      exact ih (i + 1) (by omega) _ (Or.inr ⟨_, rfl, rfl⟩) T7 _ (by rw [copyLocs_step, ← List.append_assoc]; exact X7) (pl.trans p7) (fl.step (by omega) hlt (by simp)) c10
  obtain ⟨T9, B9, z9, X9, p9, f9, g9⟩ := loop len 0 (by omega) .unset (Or.inl rfl) s₁ B (by simpa [copyLocs] using X0) ⟨hB0.1, fun _ _ => rfl, rfl⟩ (Laid.zero _ _ _) c2
  have c11 : Steps p.tables e below (s₁.setTop (entryFrame m #[.ref b, .int (Int32.ofNat o), .ref d, .int (Int32.ofNat q), .int (Int32.ofNat len)] 7)) (T9.setTop (mkF m 46 #[.val (.ref b), .val (.int (Int32.ofNat (o + len))), .val (.ref d), .val (.int (Int32.ofNat (q + len))), .val (.int (Int32.ofNat len)), .val (.int (Int32.ofNat len)), z9] [.int (Int32.ofNat len)])) := g9.trans (by
    refine XS.iload X9.here hexec rfl (hb hbytes d3) rfl ?_
    refine XS.iload X9.here hexec rfl (hb hbytes d5) rfl ?_
    refine XS.icmpYes X9.here hexec rfl (pc0 := 7) rfl (hb hbytes d7) rfl (ii_ge_t (nlt32 (by omega) (Nat.le_refl _))) (by decide) rfl ?_
    refine XS.iload X9.here hexec rfl (hb hbytes d44) rfl ?_
    exact Steps.refl _)
  exact ⟨T9, some (.int (Int32.ofNat len)), _, _, _, X9, by simp, rfl, rfl, (fun h => by cases h), ⟨rfl, B9, p9.from hh0, f9⟩, fun fs hl => c11.trans (X9.ireturnOut hexec hret rfl (Or.inl rfl) (hb hbytes d46) hl)⟩
end Cmp5
namespace Cmp3
def yN : MethodName := ⟨"java/lang/StringUTF16", "compress", "([CII)[B"⟩
abbrev yB : ByteArray := jdk_52_method_16_code
theorem d0 : decode yB 0 = .ok (.iload_n 2, 1) := by decide +kernel
theorem d1 : decode yB 1 = .ok (.newarray .byte, 2) := by decide +kernel
theorem d3 : decode yB 3 = .ok (.astore_n 3, 1) := by decide +kernel
theorem d4 : decode yB 4 = .ok (.aload_n 0, 1) := by decide +kernel
theorem d5 : decode yB 5 = .ok (.iload_n 1, 1) := by decide +kernel
theorem d6 : decode yB 6 = .ok (.aload_n 3, 1) := by decide +kernel
theorem d7 : decode yB 7 = .ok (.iconst 0, 1) := by decide +kernel
theorem d8 : decode yB 8 = .ok (.iload_n 2, 1) := by decide +kernel
theorem d9 : decode yB 9 = .ok (.invokestatic 115, 3) := by decide +kernel
theorem d12 : decode yB 12 = .ok (.istore 4, 2) := by decide +kernel
theorem d14 : decode yB 14 = .ok (.iload 4, 2) := by decide +kernel
theorem d16 : decode yB 16 = .ok (.iload_n 2, 1) := by decide +kernel
theorem d17 : decode yB 17 = .ok (.if_icmp (.eq) 40, 3) := by decide +kernel
theorem d57 : decode yB 57 = .ok (.aload_n 3, 1) := by decide +kernel
theorem d58 : decode yB 58 = .ok (.areturn, 1) := by decide +kernel
def site : List Cond := [.arrayClass .byte, Cmp5.tab] ++ staticW U16 115 Cmp5.yN
def tab : Cond := tabOf yN yB 6 (some (.array .byte)) site
def P (b : Addr) (A : Cell) (o len : Nat) (args : Array Value) (s : State) : Prop := args = #[.ref b, .int (Int32.ofNat o), .int (Int32.ofNat len)] ∧ Ch b A s ∧ o + len ≤ A.slots.size ∧ len ≤ 536870912 ∧ ∀ i, i < len → ¬ 255 < cv A (o + i)
def E (b : Addr) (A : Cell) (o len : Nat) (r : Option Value) (s u : State) : Prop := NewArr .byte "[B" len (fun j => .int (lo8 (cv A (o + j)))) r s u ∧ u.heap.size = s.heap.size + 1
/-- no char of the range above 255: a new byte[] of their low bytes -/
theorem law (l : Launch) (b : Addr) (A : Cell) (o len : Nat) : Law l yN 3 3 1 18 yB 6 (some (.array .byte)) site (P b A o len) (E b A o len) [] 1 len := by
  refine Law.of_walk (plainFor_of_name (by decide +kernel)) (by decide +kernel) (by decide +kernel) (by decide) (fun _ _ h => by rw [h.1]; rfl) (fun _ U U' hal hh h => ⟨h.1, h.2.1.mv hal hh, h.2.2⟩) (fun r U U' V V' h1 hal h2 h => ⟨NewArr.mv r U U' V V' h1 hal h2 h.1, by rw [h1, h2]; exact h.2⟩) ?_
  intro p e s m args below meth c s₁ X0 hexec hbytes hml hret hlk hnm hown hh0 W hP
  obtain ⟨rfl, hA, l1, l2, hp⟩ := hP
  have a31 := hA.1.2.2.2
  have c1 : Steps p.tables e below (s₁.setTop (entryFrame m #[.ref b, .int (Int32.ofNat o), .int (Int32.ofNat len)] 6)) (s₁.setTop (mkF m 0 #[.val (.ref b), .val (.int (Int32.ofNat o)), .val (.int (Int32.ofNat len)), .unset, .unset, .unset] [])) := entry rfl
  have c2 : Steps p.tables e below (s₁.setTop (entryFrame m #[.ref b, .int (Int32.ofNat o), .int (Int32.ofNat len)] 6)) (s₁.setTop (mkF m 1 #[.val (.ref b), .val (.int (Int32.ofNat o)), .val (.int (Int32.ofNat len)), .unset, .unset, .unset] [.int (Int32.ofNat len)])) := c1.trans (by
    refine XS.iloadN X0.here hexec rfl (hb hbytes d0) rfl ?_
    exact Steps.refl _)
  obtain ⟨T3, B3, X3, ba3, bs3, bv3, bh3, bf3, st3⟩ := X0.anew hexec (atype := .byte) (wk W (.arrayClass .byte)) rfl (by show len * 1 ≤ _; omega) (by omega) (g := (mkF m 1 #[.val (.ref b), .val (.int (Int32.ofNat o)), .val (.int (Int32.ofNat len)), .unset, .unset, .unset] [.int (Int32.ofNat len)])) rfl (hb hbytes d1) (rest := []) rfl (Nat.le_refl _) (by show 0 + len ≤ len; omega)
  rw [hh0] at ba3 st3
  have kp3 : XT.Kept s T3 := (XT.Kept.of_eq hh0).push bh3
  have hA3 := hA.keep X3.warmed.alike (kp3 _ _ hA.1.1)
  have hne : b ≠ s.heap.size := hA.1.ne
  have c4 : Steps p.tables e below (s₁.setTop (entryFrame m #[.ref b, .int (Int32.ofNat o), .int (Int32.ofNat len)] 6)) (T3.setTop (mkF m 3 #[.val (.ref b), .val (.int (Int32.ofNat o)), .val (.int (Int32.ofNat len)), .unset, .unset, .unset] [.ref s.heap.size])) := c2.trans (st3 _ (Steps.refl _))
  have c5 : Steps p.tables e below (s₁.setTop (entryFrame m #[.ref b, .int (Int32.ofNat o), .int (Int32.ofNat len)] 6)) (T3.setTop (mkF m 9 #[.val (.ref b), .val (.int (Int32.ofNat o)), .val (.int (Int32.ofNat len)), .val (.ref s.heap.size), .unset, .unset] [.int (Int32.ofNat len), .int 0, .ref s.heap.size, .int (Int32.ofNat o), .ref b])) := c4.trans (by
    refine XS.astoreN X3.here hexec rfl (hb hbytes d3) rfl rfl rfl ?_
    refine XS.aloadN X3.here hexec rfl (hb hbytes d4) rfl rfl ?_
    refine XS.iloadN X3.here hexec rfl (hb hbytes d5) rfl ?_
    refine XS.aloadN X3.here hexec rfl (hb hbytes d6) rfl rfl ?_
    refine iconstV X3.here hexec rfl 0 (hb hbytes d7) (by decide) ?_
    refine XS.iloadN X3.here hexec rfl (hb hbytes d8) rfl ?_
    exact Steps.refl _)
  obtain ⟨v6, T6, X6, E6, g6⟩ := X3.callS hexec (Cmp5.law l b A s.heap.size B3 o 0 len) hown (wks W (staticW U16 115 Cmp5.yN)) (wk W Cmp5.tab) (W := 0) (Nat.le_of_ble_eq_true rfl) (Nat.le_of_ble_eq_true rfl) (Nat.le_refl _) (by show 0 + len + 0 ≤ len; omega) (g := (mkF m 9 #[.val (.ref b), .val (.int (Int32.ofNat o)), .val (.int (Int32.ofNat len)), .val (.ref s.heap.size), .unset, .unset] [.int (Int32.ofNat len), .int (Int32.ofNat 0), .ref s.heap.size, .int (Int32.ofNat o), .ref b])) rfl (by rw [hml]; rfl) c5 (argsL := [.ref b, .int (Int32.ofNat o), .ref s.heap.size, .int (Int32.ofNat 0), .int (Int32.ofNat len)]) (rest := []) rfl rfl (by show 2 * 0 + 0 ≤ _; decide) (hb hbytes d9) (⟨rfl, hA3, ba3, hne, l1, by rw [bs3]; simp, hp⟩)
  obtain ⟨rfl, B6, p6, f6⟩ := E6
  have c7 : Steps p.tables e below (s₁.setTop (entryFrame m #[.ref b, .int (Int32.ofNat o), .int (Int32.ofNat len)] 6)) (T6.setTop (mkF m 12 #[.val (.ref b), .val (.int (Int32.ofNat o)), .val (.int (Int32.ofNat len)), .val (.ref s.heap.size), .unset, .unset] [.int (Int32.ofNat len)])) := g6
  have c8 : Steps p.tables e below (s₁.setTop (entryFrame m #[.ref b, .int (Int32.ofNat o), .int (Int32.ofNat len)] 6)) (T6.setTop (mkF m 58 #[.val (.ref b), .val (.int (Int32.ofNat o)), .val (.int (Int32.ofNat len)), .val (.ref s.heap.size), .val (.int (Int32.ofNat len)), .unset] [.ref s.heap.size])) := c7.trans (by
    refine XS.istore X6.here hexec rfl (hb hbytes d12) rfl rfl ?_
    refine XS.iload X6.here hexec rfl (hb hbytes d14) rfl ?_
    refine XS.iloadN X6.here hexec rfl (hb hbytes d16) rfl ?_
    refine XS.icmpYes X6.here hexec rfl (pc0 := 17) rfl (hb hbytes d17) rfl (ii_eq_t rfl) (by decide) rfl ?_
    refine XS.aloadN X6.here hexec rfl (hb hbytes d57) rfl rfl ?_
    exact Steps.refl _)
  have X8 := X6.wide (L' := []) (cells' := 1) (slots' := len) (fun x hx hlt => by
    simp only [List.nil_append, copyLocs, List.mem_map, List.mem_range] at hx
    obtain ⟨i, -, rfl⟩ := hx
    exact absurd hlt (Nat.lt_irrefl _)) (Nat.le_refl _) (by omega)
  exact ⟨T6, some (.ref s.heap.size), _, _, _, X8, rfl, rfl, rfl, (fun h => by cases h), ⟨⟨rfl, B6, ba3.like (X3.warmed.alike.symm.trans X6.warmed.alike) p6.1 f6.1 f6.2.1 f6.2.2.1, f6.2.1.trans bv3, by rw [X6.warmed.alike.findClass, f6.1]; exact bf3, by rw [f6.2.2.1, bs3]; simp, fun j hj => by rw [f6.2.2.2 j, if_pos (by omega)]; rfl, kp3.put p6 (Nat.le_refl _)⟩, by rw [p6.2.2, bh3, hh0]; simp⟩, fun fs hl => c8.trans (X8.areturnOut hexec rfl hret rfl (hb hbytes d58) hl)⟩
end Cmp3
namespace CodL
def yN : MethodName := ⟨"java/lang/StringUTF16", "coderFromArrayLen", "([BI)B"⟩
abbrev yB : ByteArray := jdk_52_method_15_code
theorem d0 : decode yB 0 = .ok (.iload_n 1, 1) := by decide +kernel
theorem d1 : decode yB 1 = .ok (.aload_n 0, 1) := by decide +kernel
theorem d2 : decode yB 2 = .ok (.arraylength, 1) := by decide +kernel
theorem d3 : decode yB 3 = .ok (.isub, 1) := by decide +kernel
theorem d4 : decode yB 4 = .ok (.bipush 31, 2) := by decide +kernel
theorem d6 : decode yB 6 = .ok (.iushr, 1) := by decide +kernel
theorem d7 : decode yB 7 = .ok (.i2b, 1) := by decide +kernel
theorem d8 : decode yB 8 = .ok (.ireturn, 1) := by decide +kernel
def site : List Cond := []
def tab : Cond := tabOf yN yB 2 (some .byte) site
def P (d : Addr) (B : Cell) (args : Array Value) (s : State) : Prop := args = #[.ref d, .int (Int32.ofNat B.slots.size)] ∧ Arr .byte d B s
def E (r : Option Value) (s u : State) : Prop := XT.PureE (some (.int 0)) r s u
/-- an array as long as the number of chars: LATIN1 -/
theorem law (l : Launch) (d : Addr) (B : Cell) : Law l yN 2 2 0 0 yB 2 (some .byte) site (P d B) E [] 0 0 := by
  refine Law.of_walk (plainFor_of_name (by decide +kernel)) (by decide +kernel) (by decide +kernel) (by decide) (fun _ _ h => by rw [h.1]; rfl) (fun _ U U' hal hh h => ⟨h.1, h.2.mv hal hh⟩) (fun r U U' V V' h1 hal h2 h => XT.PureE.mv r U U' V V' h1 hal h2 h) ?_
  intro p e s m args below meth c s₁ X0 hexec hbytes hml hret hlk hnm hown hh0 W hP
  obtain ⟨rfl, hB⟩ := hP
  have hB0 := hB.mv X0.warmed.alike hh0
  have c1 : Steps p.tables e below (s₁.setTop (entryFrame m #[.ref d, .int (Int32.ofNat B.slots.size)] 2)) (s₁.setTop (mkF m 0 #[.val (.ref d), .val (.int (Int32.ofNat B.slots.size))] [])) := entry rfl
  have c2 : Steps p.tables e below (s₁.setTop (entryFrame m #[.ref d, .int (Int32.ofNat B.slots.size)] 2)) (s₁.setTop (mkF m 2 #[.val (.ref d), .val (.int (Int32.ofNat B.slots.size))] [.ref d, .int (Int32.ofNat B.slots.size)])) := c1.trans (by
    refine XS.iloadN X0.here hexec rfl (hb hbytes d0) rfl ?_
    refine XS.aloadN X0.here hexec rfl (hb hbytes d1) rfl rfl ?_
    exact Steps.refl _)
  have c3 : Steps p.tables e below (s₁.setTop (entryFrame m #[.ref d, .int (Int32.ofNat B.slots.size)] 2)) (s₁.setTop (mkF m 8 #[.val (.ref d), .val (.int (Int32.ofNat B.slots.size))] [.int (lo8 (ushr (Int32.ofNat B.slots.size - Int32.ofNat B.slots.size) 31))])) := c2.trans (by
    refine X0.alen hexec hB0 rfl rfl (hb hbytes d2) ?_
    refine XS.isub X0.here hexec rfl (hb hbytes d3) rfl ?_
    refine bipushV X0.here hexec rfl 31 (hb hbytes d4) (by decide) ?_
    refine iushr X0.here hexec rfl (hb hbytes d6) rfl ?_
    refine i2b X0.here hexec rfl (hb hbytes d7) rfl ?_
    exact Steps.refl _)
  have e0 : lo8 (ushr (Int32.ofNat B.slots.size - Int32.ofNat B.slots.size) 31) = 0 := by rw [Int32.sub_self]; decide
  rw [e0] at c3
  exact ⟨s₁, some (.int 0), _, _, _, X0, rfl, rfl, rfl, (fun h => by cases h), ⟨rfl, hh0⟩, fun fs hl => c3.trans (X0.ireturnOut hexec hret rfl (Or.inr (Or.inr (Or.inl rfl))) (hb hbytes d8) hl)⟩
end CodL
/-- the String at a is Latin-1 over a new byte[] (the heap's one new cell): the low bytes of the len chars of A from o on; every cell but a is kept -/
def Got (a : Addr) (D : Cell) (fV fC : Field) (A : Cell) (o len : Nat) (r : Option Value) (s u : State) : Prop := r = none ∧ ∃ D' V : Cell, Blank "java/lang/String" a D' u ∧ Same D D' [fV.slot, fC.slot] ∧ D'.slots[fV.slot]? = some (.ref s.heap.size) ∧ D'.slots[fC.slot]? = some (.int 0) ∧ Arr .byte s.heap.size V u ∧ V.vm = .none ∧ u.vm.findClass "[B" = some V.cls ∧ V.slots.size = len ∧ (∀ j, j < len → V.slots[j]? = some (.int (lo8 (cv A (o + j))))) ∧ (∀ (y : Addr) (c : Cell), y ≠ a → s.heap[y]? = some c → u.heap[y]? = some c) ∧ u.heap.size = s.heap.size + 1
theorem Got.mv {a : Addr} {D A : Cell} {fV fC : Field} {o len : Nat} : ∀ r (U U' V V' : State), U'.heap = U.heap → V.vm.Alike V'.vm → V'.heap = V.heap → Got a D fV fC A o len r U V → Got a D fV fC A o len r U' V' :=
  fun r U U' V V' h1 hal h2 ⟨e0, D', X, a1, a2, a3, a4, a5, a6, a7, a8, a9, a10, a11⟩ => ⟨e0, D', X, a1.mv hal h2, a2, by rw [h1]; exact a3, a4, by rw [h1]; exact a5.mv hal h2, a6, by rw [hal.findClass]; exact a7, a8, a9, by rw [h1, h2]; exact a10, by rw [h1, h2]; exact a11⟩
namespace New4
def yN : MethodName := ⟨"java/lang/String", "<init>", "([CIILjava/lang/Void;)V"⟩
abbrev yB : ByteArray := jdk_42_method_149_code
theorem d0 : decode yB 0 = .ok (.aload_n 0, 1) := by decide +kernel
theorem d1 : decode yB 1 = .ok (.invokespecial 1, 3) := by decide +kernel
theorem d4 : decode yB 4 = .ok (.iload_n 3, 1) := by decide +kernel
theorem d5 : decode yB 5 = .ok (.ifCond (.ne) 22, 3) := by decide +kernel
theorem d27 : decode yB 27 = .ok (.getstatic 38, 3) := by decide +kernel
theorem d30 : decode yB 30 = .ok (.ifCond (.eq) 28, 3) := by decide +kernel
theorem d33 : decode yB 33 = .ok (.aload_n 1, 1) := by decide +kernel
theorem d34 : decode yB 34 = .ok (.iload_n 2, 1) := by decide +kernel
theorem d35 : decode yB 35 = .ok (.iload_n 3, 1) := by decide +kernel
theorem d36 : decode yB 36 = .ok (.invokestatic 177, 3) := by decide +kernel
theorem d39 : decode yB 39 = .ok (.astore 5, 2) := by decide +kernel
theorem d41 : decode yB 41 = .ok (.aload_n 0, 1) := by decide +kernel
theorem d42 : decode yB 42 = .ok (.aload 5, 2) := by decide +kernel
theorem d44 : decode yB 44 = .ok (.iload_n 3, 1) := by decide +kernel
theorem d45 : decode yB 45 = .ok (.invokestatic 47, 3) := by decide +kernel
theorem d48 : decode yB 48 = .ok (.putfield 15, 3) := by decide +kernel
theorem d51 : decode yB 51 = .ok (.aload_n 0, 1) := by decide +kernel
theorem d52 : decode yB 52 = .ok (.aload 5, 2) := by decide +kernel
theorem d54 : decode yB 54 = .ok (.putfield 9, 3) := by decide +kernel
theorem d57 : decode yB 57 = .ok (.return_, 1) := by decide +kernel
def site : List Cond := [.fieldLink "java/lang/String" 38 "java/lang/String" "COMPACT_STRINGS" "Z", Cmp3.tab, CodL.tab, .laysFinal "java/lang/String" "java/lang/String" "value" "[B", .fieldLink "java/lang/String" 9 "java/lang/String" "value" "[B", .laysFinal "java/lang/String" "java/lang/String" "coder" "B", .fieldLink "java/lang/String" 15 "java/lang/String" "coder" "B"] ++ objW "java/lang/String" 1 ++ staticW "java/lang/String" 177 Cmp3.yN ++ staticW "java/lang/String" 47 CodL.yN
def tab : Cond := tabOf yN yB 6 none site
def P (a : Addr) (D : Cell) (fV fC : Field) (b : Addr) (A : Cell) (z : Int32) (o len : Nat) (args : Array Value) (s : State) : Prop := args = #[.ref a, .ref b, .int (Int32.ofNat o), .int (Int32.ofNat len), .null] ∧ Blank "java/lang/String" a D s ∧ Found "java/lang/String" "value" "[B" fV s ∧ Found "java/lang/String" "coder" "B" fC s ∧ Ch b A s ∧ StaticIs s "java/lang/String" "COMPACT_STRINGS" "Z" (.int z) ∧ ¬ z = 0 ∧ 0 < len ∧ o + len ≤ A.slots.size ∧ len ≤ 536870912 ∧ ∀ i, i < len → ¬ 255 < cv A (o + i)
def E (a : Addr) (D : Cell) (fV fC : Field) (A : Cell) (o len : Nat) (r : Option Value) (s u : State) : Prop := Got a D fV fC A o len r s u
/-- len > 0, no char of the range above 255: a Latin-1 String of their low bytes -/
theorem law (l : Launch) (a : Addr) (D : Cell) (fV fC : Field) (b : Addr) (A : Cell) (z : Int32) (o len : Nat) : Law l yN 5 4 2 35 yB 6 none site (P a D fV fC b A z o len) (E a D fV fC A o len) [⟨a, fC.slot⟩, ⟨a, fV.slot⟩] 1 len := by
  refine Law.of_walk (plainFor_of_name (by decide +kernel)) (by decide +kernel) (by decide +kernel) (by decide) (fun _ _ h => by rw [h.1]; rfl) (fun _ U U' hal hh h => ⟨h.1, h.2.1.mv hal hh, h.2.2.1.al hal, h.2.2.2.1.al hal, h.2.2.2.2.1.mv hal hh, h.2.2.2.2.2.1.there hal hh, h.2.2.2.2.2.2⟩) (fun r U U' V V' h1 hal h2 h => Got.mv r U U' V V' h1 hal h2 h) ?_
  intro p e s m args below meth c s₁ X0 hexec hbytes hml hret hlk hnm hown hh0 W hP
  obtain ⟨rfl, hB, f1, f2, hA, s1, hz, l0, l1, l2, hp⟩ := hP
  have a31 := hA.1.2.2.2
  have c1 : Steps p.tables e below (s₁.setTop (entryFrame m #[.ref a, .ref b, .int (Int32.ofNat o), .int (Int32.ofNat len), .null] 6)) (s₁.setTop (mkF m 0 #[.val (.ref a), .val (.ref b), .val (.int (Int32.ofNat o)), .val (.int (Int32.ofNat len)), .val .null, .unset] [])) := entry rfl
  have c2 : Steps p.tables e below (s₁.setTop (entryFrame m #[.ref a, .ref b, .int (Int32.ofNat o), .int (Int32.ofNat len), .null] 6)) (s₁.setTop (mkF m 1 #[.val (.ref a), .val (.ref b), .val (.int (Int32.ofNat o)), .val (.int (Int32.ofNat len)), .val .null, .unset] [.ref a])) := c1.trans (by
    refine XS.aloadN X0.here hexec rfl (hb hbytes d0) rfl rfl ?_
    exact Steps.refl _)
  obtain ⟨T3, X3, q3, st3⟩ := X0.oinit hexec hown (wks W (objW "java/lang/String" 1)) (g := (mkF m 1 #[.val (.ref a), .val (.ref b), .val (.int (Int32.ofNat o)), .val (.int (Int32.ofNat len)), .val .null, .unset] [.ref a])) rfl (by rw [hml]; rfl) (rest := []) rfl (hb hbytes d1) (W := 0) (by show 2 * 0 + 0 ≤ _; decide) (Nat.le_of_ble_eq_true rfl) (Nat.le_of_ble_eq_true rfl)
  have hh3 := q3.trans hh0
  have c4 : Steps p.tables e below (s₁.setTop (entryFrame m #[.ref a, .ref b, .int (Int32.ofNat o), .int (Int32.ofNat len), .null] 6)) (T3.setTop (mkF m 27 #[.val (.ref a), .val (.ref b), .val (.int (Int32.ofNat o)), .val (.int (Int32.ofNat len)), .val .null, .unset] [])) := (c2.trans (st3 _ (Steps.refl _))).trans (by
    refine XS.iloadN X3.here hexec rfl (hb hbytes d4) rfl ?_
    refine XS.ifYes X3.here hexec rfl (pc0 := 5) rfl (hb hbytes d5) rfl (i0_ne_t (nz32 (by omega) l0)) (by decide) rfl ?_
    exact Steps.refl _)
  obtain ⟨T5, X5, q5, st5⟩ := X3.sget hexec hown (wk W (.fieldLink "java/lang/String" 38 "java/lang/String" "COMPACT_STRINGS" "Z")) s1 (fun _ _ h => by rw [hh3]; exact h) (g := (mkF m 27 #[.val (.ref a), .val (.ref b), .val (.int (Int32.ofNat o)), .val (.int (Int32.ofNat len)), .val .null, .unset] [])) rfl (hb hbytes d27)
  have hh5 := q5.trans hh3
  have c6 : Steps p.tables e below (s₁.setTop (entryFrame m #[.ref a, .ref b, .int (Int32.ofNat o), .int (Int32.ofNat len), .null] 6)) (T5.setTop (mkF m 30 #[.val (.ref a), .val (.ref b), .val (.int (Int32.ofNat o)), .val (.int (Int32.ofNat len)), .val .null, .unset] [.int z])) := c4.trans (st5 _ (Steps.refl _))
  have c7 : Steps p.tables e below (s₁.setTop (entryFrame m #[.ref a, .ref b, .int (Int32.ofNat o), .int (Int32.ofNat len), .null] 6)) (T5.setTop (mkF m 36 #[.val (.ref a), .val (.ref b), .val (.int (Int32.ofNat o)), .val (.int (Int32.ofNat len)), .val .null, .unset] [.int (Int32.ofNat len), .int (Int32.ofNat o), .ref b])) := c6.trans (by
    refine XS.ifNo X5.here hexec rfl (hb hbytes d30) rfl (i0_eq_f hz) ?_
    refine XS.aloadN X5.here hexec rfl (hb hbytes d33) rfl rfl ?_
    refine XS.iloadN X5.here hexec rfl (hb hbytes d34) rfl ?_
    refine XS.iloadN X5.here hexec rfl (hb hbytes d35) rfl ?_
    exact Steps.refl _)
  obtain ⟨v8, T8, X8, E8, g8⟩ := X5.callS hexec (Cmp3.law l b A o len) hown (wks W (staticW "java/lang/String" 177 Cmp3.yN)) (wk W Cmp3.tab) (W := 0) (Nat.le_of_ble_eq_true rfl) (Nat.le_of_ble_eq_true rfl) (Nat.le_refl _) (by show 0 + len ≤ len; omega) (g := (mkF m 36 #[.val (.ref a), .val (.ref b), .val (.int (Int32.ofNat o)), .val (.int (Int32.ofNat len)), .val .null, .unset] [.int (Int32.ofNat len), .int (Int32.ofNat o), .ref b])) rfl (by rw [hml]; rfl) c7 (argsL := [.ref b, .int (Int32.ofNat o), .int (Int32.ofNat len)]) (rest := []) rfl rfl (by show 2 * 0 + 0 ≤ _; decide) (hb hbytes d36) (⟨rfl, hA.mv X5.warmed.alike hh5, l1, l2, hp⟩)
  obtain ⟨e8, z8⟩ := E8
  obtain ⟨rfl, N, n1, n2, n3, n4, n5, n6⟩ := NewArr.mv _ T5 s _ _ hh5.symm (Vm.Alike.refl _) rfl e8
  rw [hh5] at z8
  have hB1 := hB.keep X8.warmed.alike (n6 _ _ hB.1)
  have hne : s.heap.size ≠ a := (Nat.ne_of_lt (Array.getElem?_eq_some_iff.mp hB.1).1).symm
  have c9 : Steps p.tables e below (s₁.setTop (entryFrame m #[.ref a, .ref b, .int (Int32.ofNat o), .int (Int32.ofNat len), .null] 6)) (T8.setTop (mkF m 39 #[.val (.ref a), .val (.ref b), .val (.int (Int32.ofNat o)), .val (.int (Int32.ofNat len)), .val .null, .unset] [.ref s.heap.size])) := g8
  have c10 : Steps p.tables e below (s₁.setTop (entryFrame m #[.ref a, .ref b, .int (Int32.ofNat o), .int (Int32.ofNat len), .null] 6)) (T8.setTop (mkF m 45 #[.val (.ref a), .val (.ref b), .val (.int (Int32.ofNat o)), .val (.int (Int32.ofNat len)), .val .null, .val (.ref s.heap.size)] [.int (Int32.ofNat N.slots.size), .ref s.heap.size, .ref a])) := by
    have hc : Steps p.tables e below (s₁.setTop (entryFrame m #[.ref a, .ref b, .int (Int32.ofNat o), .int (Int32.ofNat len), .null] 6)) (T8.setTop (mkF m 45 #[.val (.ref a), .val (.ref b), .val (.int (Int32.ofNat o)), .val (.int (Int32.ofNat len)), .val .null, .val (.ref s.heap.size)] [.int (Int32.ofNat len), .ref s.heap.size, .ref a])) := c9.trans (by
      refine XS.astore X8.here hexec rfl (hb hbytes d39) rfl rfl rfl ?_
      refine XS.aloadN X8.here hexec rfl (hb hbytes d41) rfl rfl ?_
      refine XS.aload X8.here hexec rfl (hb hbytes d42) rfl rfl ?_
      refine XS.iloadN X8.here hexec rfl (hb hbytes d44) rfl ?_
      exact Steps.refl _)
    rw [n4]; exact hc
  obtain ⟨v11, T11, X11, E11, g11⟩ := X8.callS hexec (CodL.law l s.heap.size N) hown (wks W (staticW "java/lang/String" 47 CodL.yN)) (wk W CodL.tab) (W := 1) (Nat.le_of_ble_eq_true rfl) (Nat.le_of_ble_eq_true rfl) (Nat.le_refl _) (by show 0 + len + 0 ≤ len; omega) (g := (mkF m 45 #[.val (.ref a), .val (.ref b), .val (.int (Int32.ofNat o)), .val (.int (Int32.ofNat len)), .val .null, .val (.ref s.heap.size)] [.int (Int32.ofNat N.slots.size), .ref s.heap.size, .ref a])) rfl (by rw [hml]; rfl) c10 (argsL := [.ref s.heap.size, .int (Int32.ofNat N.slots.size)]) (rest := [.ref a]) rfl rfl (by show 2 * 0 + (1 + 0) ≤ _; decide) (hb hbytes d45) (⟨rfl, n1⟩)
  obtain ⟨rfl, q11⟩ := E11
  have hB11 := hB1.mv (X8.warmed.alike.symm.trans X11.warmed.alike) q11
  have c12 : Steps p.tables e below (s₁.setTop (entryFrame m #[.ref a, .ref b, .int (Int32.ofNat o), .int (Int32.ofNat len), .null] 6)) (T11.setTop (mkF m 48 #[.val (.ref a), .val (.ref b), .val (.int (Int32.ofNat o)), .val (.int (Int32.ofNat len)), .val .null, .val (.ref s.heap.size)] [.int 0, .ref a])) := g11
  obtain ⟨T13, X13, p13, bl13, sl13, st13⟩ := X11.finit hexec hown (wk W (.fieldLink "java/lang/String" 15 "java/lang/String" "coder" "B")) (Or.inr ⟨_, (wk W (.laysFinal "java/lang/String" "java/lang/String" "coder" "B"))⟩) (Or.inl ⟨rfl, hnm⟩) f2 (Or.inl rfl) hB11 (t := .byte) (by decide +kernel) rfl (g := (mkF m 48 #[.val (.ref a), .val (.ref b), .val (.int (Int32.ofNat o)), .val (.int (Int32.ofNat len)), .val .null, .val (.ref s.heap.size)] [.int 0, .ref a])) rfl (rest := []) rfl (hb hbytes d48)
  have c14 : Steps p.tables e below (s₁.setTop (entryFrame m #[.ref a, .ref b, .int (Int32.ofNat o), .int (Int32.ofNat len), .null] 6)) (T13.setTop (mkF m 54 #[.val (.ref a), .val (.ref b), .val (.int (Int32.ofNat o)), .val (.int (Int32.ofNat len)), .val .null, .val (.ref s.heap.size)] [.ref s.heap.size, .ref a])) := (c12.trans (st13 _ (Steps.refl _))).trans (by
    refine XS.aloadN X13.here hexec rfl (hb hbytes d51) rfl rfl ?_
    refine XS.aload X13.here hexec rfl (hb hbytes d52) rfl rfl ?_
    exact Steps.refl _)
  obtain ⟨T15, X15, p15, bl15, sl15, st15⟩ := X13.finit hexec hown (wk W (.fieldLink "java/lang/String" 9 "java/lang/String" "value" "[B")) (Or.inr ⟨_, (wk W (.laysFinal "java/lang/String" "java/lang/String" "value" "[B"))⟩) (Or.inl ⟨rfl, hnm⟩) f1 (Or.inl rfl) bl13 (t := (.array .byte)) (by decide +kernel) rfl (g := (mkF m 54 #[.val (.ref a), .val (.ref b), .val (.int (Int32.ofNat o)), .val (.int (Int32.ofNat len)), .val .null, .val (.ref s.heap.size)] [.ref s.heap.size, .ref a])) rfl (rest := []) rfl (hb hbytes d54)
  have c16 : Steps p.tables e below (s₁.setTop (entryFrame m #[.ref a, .ref b, .int (Int32.ofNat o), .int (Int32.ofNat len), .null] 6)) (T15.setTop (mkF m 57 #[.val (.ref a), .val (.ref b), .val (.int (Int32.ofNat o)), .val (.int (Int32.ofNat len)), .val .null, .val (.ref s.heap.size)] [])) := c14.trans (st15 _ (Steps.refl _))
  have ap := apart (Or.inr ⟨_, (wk W (.laysFinal "java/lang/String" "java/lang/String" "value" "[B"))⟩) (Or.inr ⟨_, (wk W (.laysFinal "java/lang/String" "java/lang/String" "coder" "B"))⟩) f1 f2 (t₁ := .array .byte) (t₂ := .byte) (by decide +kernel) (by decide +kernel) (by decide)
  have al := X8.warmed.alike.symm.trans X15.warmed.alike
  have n7 : T11.heap[s.heap.size]? = some N := by rw [q11]; exact n1.1
  exact ⟨T15, none, _, _, _, X15, by simp, rfl, by omega, (fun _ => rfl), ⟨rfl, _, N, bl15, ((Same.refl D _).set _ (by simp)).set _ (by simp), sl15, (Cell.slots_setSlot_ne _ ap).trans sl13, n1.keep al (p15.other hne (p13.other hne n7)), n2, by rw [al.findClass]; exact n3, n4, n5, fun y c h1 h2 => p15.other h1 (p13.other h1 (by rw [q11]; exact n6 y c h2)), by rw [p15.2.2, p13.2.2, q11]; exact z8⟩, fun fs hl => c16.trans (X15.returnOut hexec hret (hb hbytes d57) hl)⟩
end New4
namespace New1
def yN : MethodName := ⟨"java/lang/String", "<init>", "([C)V"⟩
abbrev yB : ByteArray := jdk_42_method_3_code
theorem d0 : decode yB 0 = .ok (.aload_n 0, 1) := by decide +kernel
theorem d1 : decode yB 1 = .ok (.aload_n 1, 1) := by decide +kernel
theorem d2 : decode yB 2 = .ok (.iconst 0, 1) := by decide +kernel
theorem d3 : decode yB 3 = .ok (.aload_n 1, 1) := by decide +kernel
theorem d4 : decode yB 4 = .ok (.arraylength, 1) := by decide +kernel
theorem d5 : decode yB 5 = .ok (.aconst_null, 1) := by decide +kernel
theorem d6 : decode yB 6 = .ok (.invokespecial 27, 3) := by decide +kernel
theorem d9 : decode yB 9 = .ok (.return_, 1) := by decide +kernel
def site : List Cond := [New4.tab] ++ initW "java/lang/String" 27 New4.yN
def tab : Cond := tabOf yN yB 2 none site
def P (a : Addr) (D : Cell) (fV fC : Field) (b : Addr) (A : Cell) (z : Int32) (args : Array Value) (s : State) : Prop := args = #[.ref a, .ref b] ∧ Blank "java/lang/String" a D s ∧ Found "java/lang/String" "value" "[B" fV s ∧ Found "java/lang/String" "coder" "B" fC s ∧ Ch b A s ∧ StaticIs s "java/lang/String" "COMPACT_STRINGS" "Z" (.int z) ∧ ¬ z = 0 ∧ 0 < A.slots.size ∧ A.slots.size ≤ 536870912 ∧ ∀ i, i < A.slots.size → ¬ 255 < cv A i
def E (a : Addr) (D : Cell) (fV fC : Field) (A : Cell) (r : Option Value) (s u : State) : Prop := Got a D fV fC A 0 A.slots.size r s u
/-- new String(chars), not empty, no char above 255: a Latin-1 String of their low bytes -/
theorem law (l : Launch) (a : Addr) (D : Cell) (fV fC : Field) (b : Addr) (A : Cell) (z : Int32) : Law l yN 2 1 3 52 yB 2 none site (P a D fV fC b A z) (E a D fV fC A) [⟨a, fC.slot⟩, ⟨a, fV.slot⟩] 1 A.slots.size := by
  refine Law.of_walk (plainFor_of_name (by decide +kernel)) (by decide +kernel) (by decide +kernel) (by decide) (fun _ _ h => by rw [h.1]; rfl) (fun _ U U' hal hh h => ⟨h.1, h.2.1.mv hal hh, h.2.2.1.al hal, h.2.2.2.1.al hal, h.2.2.2.2.1.mv hal hh, h.2.2.2.2.2.1.there hal hh, h.2.2.2.2.2.2⟩) (fun r U U' V V' h1 hal h2 h => Got.mv r U U' V V' h1 hal h2 h) ?_
  intro p e s m args below meth c s₁ X0 hexec hbytes hml hret hlk hnm hown hh0 W hP
  obtain ⟨rfl, hB, f1, f2, hA, s1, hz, l0, l2, hp⟩ := hP
  have c1 : Steps p.tables e below (s₁.setTop (entryFrame m #[.ref a, .ref b] 2)) (s₁.setTop (mkF m 0 #[.val (.ref a), .val (.ref b)] [])) := entry rfl
  have c2 : Steps p.tables e below (s₁.setTop (entryFrame m #[.ref a, .ref b] 2)) (s₁.setTop (mkF m 6 #[.val (.ref a), .val (.ref b)] [.null, .int (Int32.ofNat A.slots.size), .int 0, .ref b, .ref a])) := c1.trans (by
    refine XS.aloadN X0.here hexec rfl (hb hbytes d0) rfl rfl ?_
    refine XS.aloadN X0.here hexec rfl (hb hbytes d1) rfl rfl ?_
    refine iconstV X0.here hexec rfl 0 (hb hbytes d2) (by decide) ?_
    refine XS.aloadN X0.here hexec rfl (hb hbytes d3) rfl rfl ?_
    refine X0.alen hexec (hA.1.mv X0.warmed.alike hh0) rfl rfl (hb hbytes d4) ?_
    refine XS.aconstNull X0.here hexec rfl (hb hbytes d5) ?_
    exact Steps.refl _)
  obtain ⟨v3, T3, X3, E3, g3⟩ := X0.callN hexec (New4.law l a D fV fC b A z 0 A.slots.size) rfl hown (wks W (initW "java/lang/String" 27 New4.yN)) (W New4.tab (by simp only [site, List.mem_cons, List.mem_append, true_or, or_true])) (W := 0) (Nat.le_of_ble_eq_true rfl) (Nat.le_of_ble_eq_true rfl) (Nat.le_refl _) (by show 0 + A.slots.size ≤ A.slots.size; omega) (g := (mkF m 6 #[.val (.ref a), .val (.ref b)] [.null, .int (Int32.ofNat A.slots.size), .int (Int32.ofNat 0), .ref b, .ref a])) rfl (by rw [hml]; rfl) c2 (argsL := [.ref b, .int (Int32.ofNat 0), .int (Int32.ofNat A.slots.size), .null]) (rest := []) rfl rfl (by show 2 * 0 + 0 ≤ _; decide) (hb hbytes d6) (⟨rfl, hB.mv X0.warmed.alike hh0, f1.al X0.warmed.alike, f2.al X0.warmed.alike, hA.mv X0.warmed.alike hh0, s1.there X0.warmed.alike hh0, hz, l0, by omega, l2, fun i hi => by rw [Nat.zero_add]; exact hp i hi⟩)
  have e0 := Got.mv _ s₁ s _ _ hh0.symm (Vm.Alike.refl _) rfl E3
  obtain rfl := e0.1
  have c4 : Steps p.tables e below (s₁.setTop (entryFrame m #[.ref a, .ref b] 2)) (T3.setTop (mkF m 9 #[.val (.ref a), .val (.ref b)] [])) := g3
  exact ⟨T3, none, _, _, _, X3, by simp, rfl, by omega, (fun _ => rfl), e0, fun fs hl => c4.trans (X3.returnOut hexec hret (hb hbytes d9) hl)⟩
theorem pays {l : Launch} {R : Room} {p : Program} {e : Env} {below : List Frame} {s : State} {sargs : Array Value} {len W : Nat} (a : Addr) (D : Cell) (fV fC : Field) (b : Addr) (A : Cell) (z : Int32) (htab : tab.before sargs s = true) (hfr : 4 ≤ R.frames) (hlo : W + 65 ≤ R.locals) :
    Back l R p e below s sargs yN len W (fun A₁ a₁ => A₁.cells + 1 ≤ R.cells ∧ A₁.slots + A.slots.size ≤ R.slots ∧ P a D fV fC b A z a₁ A₁.U) (fun A₁ _ v₁ B₁ => E a D fV fC A v₁ A₁.U B₁.U ∧ B₁.locs = A₁.locs ++ [⟨a, fC.slot⟩, ⟨a, fV.slot⟩] ∧ B₁.cells = A₁.cells + 1 ∧ B₁.slots = A₁.slots + A.slots.size) :=
  (law l a D fV fC b A z).pays htab hfr (by omega)
end New1
end StrChars
namespace StrChars.Road
open Jvm Sem ClassFile Op Lib Jvm.Stand Jvm.Free Jvm.Free.XT
open Jvm.Lib.Cold (StaticIs)
abbrev ST : String := "java/lang/String"
/-- every table word that New1's law asks, flat -/
abbrev words : List Jvm.Cond := [.code New1.yN New1.yB 2 none, .initialized ST, .methodLink ST 27 New4.yN, .instanceMethod New4.yN,
  .code New4.yN New4.yB 6 none, .fieldLink ST 38 ST "COMPACT_STRINGS" "Z", .laysFinal ST ST "value" "[B", .fieldLink ST 9 ST "value" "[B", .laysFinal ST ST "coder" "B", .fieldLink ST 15 ST "coder" "B",
  .methodLink ST 1 Lib.objectInit, .instanceMethod Lib.objectInit, .code Lib.objectInit ⟨#[0xb1]⟩ 1 none, .methodLink ST 177 Cmp3.yN, .static Cmp3.yN, .methodLink ST 47 CodL.yN, .static CodL.yN,
  .code Cmp3.yN Cmp3.yB 6 (some (.array .byte)), .initialized U16, .arrayClass .byte, .methodLink U16 115 Cmp5.yN, .static Cmp5.yN, .code Cmp5.yN Cmp5.yB 7 (some .int), .code CodL.yN CodL.yB 2 (some .byte)]
theorem tab_of {a : Array Value} {s : State} (h : ∀ w ∈ words, w.before a s = true) : New1.tab.before a s = true := by
  have h5 : Cmp5.tab.before a s = true := unparts (wk h (.code Cmp5.yN Cmp5.yB 7 (some .int))) (wks h (.initialized Cmp5.yN.cls :: Cmp5.site))
  have hc : CodL.tab.before a s = true := unparts (wk h (.code CodL.yN CodL.yB 2 (some .byte))) (wks h (.initialized CodL.yN.cls :: CodL.site))
  have q5 : ∀ w ∈ Cmp5.tab :: words, w.before a s = true := fun w hw => (List.mem_cons.mp hw).elim (fun e => e ▸ h5) (h w)
  have h3 : Cmp3.tab.before a s = true := unparts (wk q5 (.code Cmp3.yN Cmp3.yB 6 (some (.array .byte)))) (wks q5 (.initialized Cmp3.yN.cls :: Cmp3.site))
  have q3 : ∀ w ∈ Cmp3.tab :: CodL.tab :: words, w.before a s = true := fun w hw => (List.mem_cons.mp hw).elim (fun e => e ▸ h3) fun hw => (List.mem_cons.mp hw).elim (fun e => e ▸ hc) (h w)
  have h4 : New4.tab.before a s = true := unparts (wk q3 (.code New4.yN New4.yB 6 none)) (wks q3 (.initialized New4.yN.cls :: New4.site))
  have q4 : ∀ w ∈ New4.tab :: words, w.before a s = true := fun w hw => (List.mem_cons.mp hw).elim (fun e => e ▸ h4) (h w)
  exact unparts (wk q4 (.code New1.yN New1.yB 2 none)) (wks q4 (.initialized New1.yN.cls :: New1.site))
/-- the words ride from the start Z to the walk's own state -/
theorem moved {Z s : State} {a0 args : Array Value} (hZ : Z.Warmed39 s.vm) (hw : ∀ d ∈ words, d.before a0 Z = true) : ∀ d ∈ words, d.before args s = true := fun d hd => by
  have q := hw d hd
  have t : ∀ d ∈ words, d = .arrayClass .byte ∨ (d.onTables && d.keepsFace) = true := by decide +kernel
  rcases t d hd with rfl | t
  · exact RoadKit.mvA hZ q
  · exact RoadKit.mv hZ q t
/-- WHAT COMES BACK, over the tables of the start Z: h the heap at the call, h' behind it -/
def Q (Z : State) (x : Addr) (A : Cell) (h : Heap) (v : Option Value) (h' : Heap) (L : List Loc) : Prop := v = none ∧ (∀ y ∈ L, y.base = x) ∧ RoadKit.Keep h h' [x] ∧ h'.size = h.size + 1 ∧ RoadKit.Exa Z h' x ST ∧ RoadKit.Fld Z h' x ST "value" "[B" (.ref h.size) ∧ RoadKit.Fld Z h' x ST "coder" "B" (.int 0) ∧
  (∃ V : Cell, RoadKit.Arr Z h' h.size V .byte ∧ V.vm = .none ∧ Z.vm.findClass "[B" = some V.cls ∧ V.slots.size = A.slots.size ∧ ∀ j, j < A.slots.size → V.slots[j]? = some (.int (lo8 (cv A j)))) ∧
  ∀ (O n d : String) (w : Value), RoadKit.Fld Z h x O n d w → RoadKit.slotOf Z O n d ≠ RoadKit.slotOf Z ST "value" "[B" → RoadKit.slotOf Z O n d ≠ RoadKit.slotOf Z ST "coder" "B" → RoadKit.Fld Z h' x O n d w
/-- **new String(chars) AT A CALL, IN THE ROAD'S FORM**: for specialBack behind newO: x the fresh String, b the char[] with the cell A -/
theorem back {p : Program} {l : Launch} {e : Env} {R : Room} {s : State} {args : Array Value} {below : List Frame} {len W : Nat} {Z : State} {a0 : Array Value} {h : Heap} (hZ : Z.Warmed39 s.vm) (hw : ∀ d ∈ words, d.before a0 Z = true) {kI : Nat} (wi : (Jvm.Cond.instantiable ST kI).before a0 Z = true)
    {x b : Addr} {A : Cell} {z : Int32} {v0 c0 : Value} (E : RoadKit.Exa Z h x ST) (V : RoadKit.Fld Z h x ST "value" "[B" v0) (C : RoadKit.Fld Z h x ST "coder" "B" c0) (K : RoadKit.Arr Z h b A .char) (hty : Typed .char A) (S : RoadKit.Sta Z h ST "COMPACT_STRINGS" "Z" (.int z)) (hz : ¬ z = 0)
    (l0 : 0 < A.slots.size) (l2 : A.slots.size ≤ 536870912) (hp : ∀ i, i < A.slots.size → ¬ 255 < cv A i) (hfr : 4 ≤ R.frames) (hlo : W + 65 ≤ R.locals) :
    Back l R p e below s args New1.yN len W (fun P a => a = #[.ref x, .ref b] ∧ P.U.heap = h ∧ P.cells + 1 ≤ R.cells ∧ P.slots + A.slots.size ≤ R.slots)
      (fun P _ v B => ∃ L, Q Z x A h v B.U.heap L ∧ B.locs = P.locs ++ L ∧ B.cells = P.cells + 1 ∧ B.slots = P.slots + A.slots.size) := by
  intro m meth c P g ig mk a X hg hsize hdg hW hn hp'
  obtain ⟨rfl, rfl, r1, r2⟩ := hp'
  have al : Z.vm.Alike P.U.vm := hZ.alike.trans X.warmed.alike
  obtain ⟨D, cfV, kV, iV, fV, hD, gV, stV, knV, obV, asV, slV⟩ := id V
  obtain ⟨D', cfC, kC, iC, fC, hD', gC, stC, -, -, asC, slC⟩ := id C
  cases hD.symm.trans hD'
  obtain ⟨D2, kD, e1, e2, e3, e4, e5⟩ := id E
  cases hD.symm.trans e1
  obtain ⟨c2, k2, i1, i2, i3, -⟩ := Cond.instantiable_spec wi
  cases e2.symm.trans i1
  cases e3.symm.trans i2
  obtain ⟨kU, u1, u2⟩ := al.2.2 _ _ e3
  have hB : Blank ST x D P.U := ⟨hD, ⟨knV, fun q hq => by rw [hq] at obV; cases obV⟩, by rw [al.findClass]; exact e2, kU, u1, by rw [u2]; exact i3, by rw [u2]; exact e5 i3⟩
  have F1 : Found ST "value" "[B" fV P.U := ⟨SBG.found_only al ⟨cfV, kV, iV, gV⟩, stV⟩
  have F2 : Found ST "coder" "B" fC P.U := ⟨SBG.found_only al ⟨cfC, kC, iC, gC⟩, stC⟩
  have hA : Ch b A P.U := ⟨⟨K.1, State.isArrayOf_alike al K.2.1, K.2.2, by omega⟩, hty⟩
  have hS : StaticIs P.U ST "COMPACT_STRINGS" "Z" (.int z) := by
    obtain ⟨cfS, iS, kS, fS, st, cS, t1, t2, t3, t4, t5, t6, t7⟩ := S
    exact StaticIs.there (s := { Z with heap := P.U.heap }) ⟨cfS, iS, kS, fS, st, cS, t1, t2, t3, t4, t5, (fun q => by rw [q] at t6; cases t6), t7⟩ al rfl
  obtain ⟨v, B, X', ⟨⟨hv, E', V', q1, q2, q3, q4, q5, q6, q7, q8, q9, q10, q11⟩, hl, hc, hs⟩, st⟩ := New1.pays x D fV fC b A z (tab_of (moved hZ hw)) hfr hlo m meth c P g ig mk _ X hg hsize hdg hW hn ⟨r1, r2, rfl, hB, F1, F2, hA, hS, hz, l0, l2, hp⟩
  have al' : Z.vm.Alike B.U.vm := hZ.alike.trans X'.warmed.alike
  have hsz : E'.slots.size = D.slots.size := by
    obtain ⟨-, -, -, kB, w1, w2, w3⟩ := q1
    obtain ⟨kB', y1, y2⟩ := al'.2.2 _ _ e3
    rw [q2.2.1] at w1
    cases w1.symm.trans y1
    rw [w3, e5 i3, y2]
  refine ⟨v, B, X', ⟨_, ⟨hv, ?_, ⟨by omega, fun y cy hy hn' => q10 y cy (by simpa using hn') hy, fun y cy hy => ?_⟩, q11, ⟨E', _, q1.1, by rw [q2.2.1]; exact e2, by rw [q2.2.1]; exact e3, by rw [q2.1]; exact obV, fun _ => by rw [hsz]; exact e5 i3⟩,
    ⟨E', cfV, kV, iV, fV, q1.1, gV, stV, by rw [q2.1]; exact knV, by rw [q2.1]; exact obV, by rw [q2.2.1]; exact asV, q3⟩, ⟨E', cfC, kC, iC, fC, q1.1, gC, stC, by rw [q2.1]; exact knV, by rw [q2.1]; exact obV, by rw [q2.2.1]; exact asC, q4⟩,
    ⟨V', ⟨q5.1, State.isArrayOf_alike al'.symm q5.2.1, q5.2.2.1⟩, q6, by rw [← al'.findClass]; exact q7, q8, fun j hj => by have := q9 j hj; rwa [Nat.zero_add] at this⟩, fun O n d w F n1 n2 => ?_⟩, hl, hc, hs⟩, st⟩
  · intro y hy
    simp only [List.mem_cons, List.not_mem_nil, or_false] at hy
    rcases hy with rfl | rfl <;> rfl
  · by_cases q : y = x
    · subst q
      cases hD.symm.trans hy
      exact ⟨E', q1.1, q2.2.1, q2.1, hsz⟩
    · exact ⟨cy, q10 y cy q hy, rfl, rfl, rfl⟩
  · obtain ⟨D3, cf, k, i, f, g1, g2, g3, g4, g5, g6, g7⟩ := F
    cases hD.symm.trans g1
    simp only [RoadKit.slotOf, g2, gV, gC, Option.map_some, Option.getD_some] at n1 n2
    exact ⟨E', cf, k, i, f, q1.1, g2, g3, by rw [q2.1]; exact g4, by rw [q2.1]; exact g5, by rw [q2.2.1]; exact g6, by rw [q2.2.2 f.slot (by simp [n1, n2])]; exact g7⟩
end StrChars.Road
namespace StrChars.Road
open Jvm Sem ClassFile Op Lib Jvm.Stand Jvm.Free Jvm.Free.XT
/-- WHAT COMES BACK, the byte[] as a list of values -/
def QA (Z : State) (x : Addr) (zn : Int32) (cs : List Int32) (h : Heap) (v : Option Value) (h' : Heap) (L : List Loc) : Prop := v = none ∧ (∀ y ∈ L, y.base = x) ∧ RoadKit.Keep h h' [x] ∧ h'.size = h.size + 1 ∧ RoadKit.Exa Z h' x ST ∧ RoadKit.Fld Z h' x ST "value" "[B" (.ref h.size) ∧ RoadKit.Fld Z h' x ST "coder" "B" (.int 0) ∧
  (∃ kb, Z.vm.findClass "[B" = some kb ∧ RoadKit.Arv Z h' h.size kb .byte zn (cs.map fun c => .int (lo8 c)) (.int 0)) ∧
  ∀ (O n d : String) (w : Value), RoadKit.Fld Z h x O n d w → RoadKit.slotOf Z O n d ≠ RoadKit.slotOf Z ST "value" "[B" → RoadKit.slotOf Z O n d ≠ RoadKit.slotOf Z ST "coder" "B" → RoadKit.Fld Z h' x O n d w
/-- **new String(chars) AT A CALL, THE ARRAYS AS LISTS**: the char[] at b holds cs, not empty, no char above 255 -/
theorem backArv {p : Program} {l : Launch} {e : Env} {R : Room} {s : State} {args : Array Value} {below : List Frame} {len W : Nat} {Z : State} {a0 : Array Value} {h : Heap} (hZ : Z.Warmed39 s.vm) (hw : ∀ d ∈ words, d.before a0 Z = true) {kI : Nat} (wi : (Jvm.Cond.instantiable ST kI).before a0 Z = true)
    {x b : Addr} {k : ClassId} {zn z : Int32} {cs : List Int32} {dv v0 c0 : Value} (E : RoadKit.Exa Z h x ST) (V : RoadKit.Fld Z h x ST "value" "[B" v0) (C : RoadKit.Fld Z h x ST "coder" "B" c0) (K : RoadKit.Arv Z h b k .char zn (cs.map Value.int) dv) (S : RoadKit.Sta Z h ST "COMPACT_STRINGS" "Z" (.int z)) (hz : ¬ z = 0)
    (hlen : zn.toNatClampNeg = cs.length) (h0 : 0 < cs.length) (hbig : cs.length ≤ 536870912) (hall : ∀ c ∈ cs, ¬ 255 < c) (hfr : 4 ≤ R.frames) (hlo : W + 65 ≤ R.locals) :
    Back l R p e below s args New1.yN len W (fun P a => a = #[.ref x, .ref b] ∧ P.U.heap = h ∧ P.cells + 1 ≤ R.cells ∧ P.slots + cs.length ≤ R.slots)
      (fun P _ v B => ∃ L, QA Z x zn cs h v B.U.heap L ∧ B.locs = P.locs ++ L ∧ B.cells = P.cells + 1 ∧ B.slots = P.slots + cs.length) := by
  obtain ⟨A, K1, K2, K3, K4, K5, K6⟩ := K
  have e : A.slots.size = cs.length := K3.trans hlen
  have hat : ∀ (i : Nat) (hi : i < cs.length), A.slots[i]? = some (.int cs[i]) := fun i hi => by rw [K5 i (by omega)]; simp [List.getD_eq_getElem?_getD, hi]
  have hcv : ∀ (i : Nat) (hi : i < cs.length), cv A i = cs[i] := fun i hi => by unfold cv; rw [hat i hi]
  have hty : Typed .char A := fun i v hv => by
    have hi : i < A.slots.size := (Array.getElem?_eq_some_iff.mp hv).1
    have q := K5 i hi
    rw [hv] at q
    rw [Option.some.inj q]
    exact K6 i hi
  refine Back.mono (back hZ hw wi E V C K1 hty S hz (by omega) (by omega) (fun i hi => by rw [hcv i (by omega)]; exact hall _ (List.getElem_mem _)) hfr hlo) (fun P a hp => ⟨hp.1, hp.2.1, hp.2.2.1, by rw [e]; exact hp.2.2.2⟩) (fun P a v B hp hq => ?_)
  obtain ⟨L, ⟨q1, q2, q3, q4, q5, q6, q7, ⟨V', v1, v2, v3, v4, v5⟩, q9⟩, hl, hc, hs⟩ := hq
  refine ⟨L, ⟨q1, q2, q3, q4, q5, q6, q7, ⟨V'.cls, v3, V', v1, rfl, by rw [v4, e, hlen], K4, fun i hi => ?_, fun i hi => ?_⟩, q9⟩, hl, hc, by rw [hs, e]⟩
  · have hi' : i < cs.length := by omega
    rw [v5 i (by omega), hcv i hi']; simp [List.getD_eq_getElem?_getD, hi']
  · have hi' : i < cs.length := by omega
    simp only [List.getD_eq_getElem?_getD, List.getElem?_map, List.getElem?_eq_getElem hi', Option.map_some, Option.getD_some]
    exact fits_lo8 _
end StrChars.Road
namespace StrChars.Road
open Jvm Sem ClassFile Op Lib Jvm.Stand Jvm.Free Jvm.Free.XT
/-- WHAT COMES BACK, in the writer's own shape -/
def QV (Z : State) (x : Addr) (N : Int32) (bs : List Int32) (h : Heap) (n0 : Nat) (v : Option Value) (h' : Heap) (L : List Loc) : Prop := v = none ∧ RoadKit.Fr n0 L ∧ RoadKit.Keep h h' [x] ∧ RoadKit.Exa Z h' x ST ∧ RoadKit.Fld Z h' x ST "coder" "B" (.int 0) ∧
  ∃ (t : Addr) (kb : ClassId), n0 ≤ t ∧ h.size ≤ t ∧ ¬ t = x ∧ RoadKit.Fld Z h' x ST "value" "[B" (.ref t) ∧ RoadKit.Arv Z h' t kb .byte N (bs.map Value.int) (.int 0)
/-- **new String(chars) AT A CALL, FOR THE WRITER**: a char[] of n known ints, each 0 to 255 -/
theorem backV {p : Program} {l : Launch} {e : Env} {R : Room} {s : State} {args : Array Value} {below : List Frame} {len W : Nat} {Z : State} {a0 : Array Value} {h : Heap} (hZ : Z.Warmed39 s.vm) (hw : ∀ d ∈ words, d.before a0 Z = true) {kI : Nat} (wi : (Jvm.Cond.instantiable ST kI).before a0 Z = true)
    {x b : Addr} {kC : ClassId} {cs bs : List Int32} {d v0 c0 : Value} {z N : Int32} {n n0 : Nat} (hx0 : n0 ≤ x) (hh0 : n0 ≤ h.size) (E : RoadKit.Exa Z h x ST) (V : RoadKit.Fld Z h x ST "value" "[B" v0) (C : RoadKit.Fld Z h x ST "coder" "B" c0) (K : RoadKit.Arv Z h b kC .char N (cs.map Value.int) d) (S : RoadKit.Sta Z h ST "COMPACT_STRINGS" "Z" (.int z)) (hz : ¬ z = 0)
    (hn : cs.length = n) (hN : N = Int32.ofNat n) (l0 : 0 < n) (l2 : n ≤ 4000) (hp : ∀ c ∈ cs, ¬ c < 0 ∧ ¬ (255 : Int32) < c) (hb : bs = cs.map (fun c => c.toInt8.toInt32)) (hfr : 4 ≤ R.frames) (hlo : W + 65 ≤ R.locals) :
    Back l R p e below s args (⟨"java/lang/String", "<init>", "([C)V"⟩ : MethodName) len W (fun P a => a = #[.ref x, .ref b] ∧ P.U.heap = h ∧ P.cells + 1 ≤ R.cells ∧ P.slots + n ≤ R.slots)
      (fun P _ v B => ∃ L, QV Z x N bs h n0 v B.U.heap L ∧ B.locs = P.locs ++ L ∧ B.cells = P.cells + 1 ∧ B.slots = P.slots + n) := by
  subst hn hN hb
  refine Back.mono (backArv hZ hw wi E V C K S hz (n32 (by omega)) l0 (by omega) (fun c hc => (hp c hc).2) hfr hlo) (fun P a hp => hp) (fun P a v B hp hq => ?_)
  obtain ⟨L, ⟨q1, q2, q3, q4, q5, q6, q7, ⟨kb, v1, v2⟩, q9⟩, hl, hc, hs⟩ := hq
  exact ⟨L, ⟨q1, fun y hy => by rw [q2 y hy]; exact hx0, q3, q5, q7, h.size, kb, hh0, Nat.le_refl _, Nat.ne_of_gt E.lt, q6, by rw [List.map_map]; exact v2⟩, hl, hc, hs⟩
end StrChars.Road
end Jvm.Pilot.@@N@@
namespace Jvm.Pilot.@@N@@
open Jvm Jvm.ClassFile Sem Op Lib Jvm.Free Jvm.Stand Jvm.LawKit Jvm.RoadKit Bundle Jvm.Pilot.@@N@@.Jvm.D
def own_Done (p : Program) (e : Env) (below : List Frame) (P : Outcome → State → Prop) (S : State) : Prop := ∃ s₂ o, Steps p.tables e below S s₂ ∧ s₂.status = .running ∧ Ended s₂ below o ∧ P o s₂
section Own
variable {p : Program} {e : Env} {below : List Frame} {P : Outcome → State → Prop} {S S' : State}
theorem own_open (d : own_Done p e below P S) : ∃ s₂ o, Steps p.tables e below S s₂ ∧ s₂.status = .running ∧ Ended s₂ below o ∧ P o s₂ := d
theorem own_via (k : ∀ t, Steps p.tables e below S' t → Steps p.tables e below S t) (d : own_Done p e below P S') : own_Done p e below P S := by
  obtain ⟨s₂, o, h1, h2⟩ := d
  exact ⟨s₂, o, k _ h1, h2⟩
theorem own_tr (k : Steps p.tables e below S S') (d : own_Done p e below P S') : own_Done p e below P S := own_via (fun _ h => k.trans h) d
theorem own_ret {l : Launch} {R : Room} {s : State} {m : MethodId} {args : Array Value} {meth : Method} {c : Code} {T : State} {locs : List Loc} {cells slots : Nat} {Q : Option Value → Heap → List Loc → Prop} {C N : Nat} (X : Stand p l e R s m args below meth c T locs cells slots) {v : Option Value} (hv : meth.sig.returnType = none → v = none) (hlocks : meth.locks = false) (hq : Q v T.heap locs) (hc : cells ≤ C) (hs : slots ≤ N)
    (k : ∀ fs, (∀ (f : JFrame) (acts : List Action), f.method = m → f.locked = none → f.entered = [] → (doReturn e (T.setTop f) acts v).1 = T.setFrames fs) → Steps p.tables e below S (T.setFrames fs)) :
    own_Done p e below (fun o U' => ∃ v L, o = .returned v ∧ Q v U'.heap L ∧ FrameEnd s o U' L C N) S := by
  obtain ⟨fs, hr, hrun, hended, hW, hsame⟩ := X.leave hv hlocks
  exact ⟨_, _, k fs hr, hrun, hended, v, locs, rfl, hq, ⟨_, rfl⟩, hW, hsame.mono hc hs⟩
theorem own_nface {args : Array Value} {s : State} {C : String} {y z : MethodName} (hsel : (Cond.selects C y y).before args s = true) (e : z.cls = y.cls) : NotFace s z := fun r0 h0 => by
  obtain ⟨c2, r2, m2, q1, q2, q3, q4, kP, hkP, hkPi⟩ := Cond.selects_spec hsel
  have e1 := findClass_of_methodNamed h0
  have e2 := findClass_of_methodNamed q3
  rw [e] at e1
  have e3 : r0.cls = m2.cls := Option.some.inj (e1.symm.trans e2)
  exact ⟨kP, by rw [e3]; exact hkP, hkPi⟩
theorem own_sameM {args : Array Value} {s : State} {y : MethodName} (h1 : (Cond.instanceMethod y).before args s = true) (hnf : NotFace s y) (hy : y.cls ≠ "java/lang/invoke/MethodHandle" ∧ y.cls ≠ "java/lang/invoke/VarHandle") : (Cond.sameMethod y.cls y.cls y.name y.desc).before args s = true := by
  obtain ⟨mk, meth, hn, hm, -, -⟩ := Cond.instanceMethod_spec h1
  have e1 := findClass_of_methodNamed hn
  have e2 := State.methodFound?_of_named hn hy
  obtain ⟨k, hk, hi⟩ := hnf _ hn
  have e3 : s.methodNamed? ⟨y.cls, y.name, y.desc⟩ = some mk := hn
  simp [Cond.before, Cond.holds, Cond.value, e1, e2, e3, hk, hi]
theorem own_declares {args : Array Value} {s : State} {y : MethodName} {bytes : ByteArray} {maxL : Nat} {ret : Option FieldType} (h1 : (Cond.instanceMethod y).before args s = true) (h2 : (Cond.code y bytes maxL ret).before args s = true) : (Cond.declares y).before args s = true := by
  obtain ⟨mk, meth, hn, hm, hst, -⟩ := Cond.instanceMethod_spec h1
  obtain ⟨meth', c, hm', -, -, -, -, -, -, hsig⟩ := Cond.code_spec hn h2
  cases hm.symm.trans hm'
  simp [Cond.before, Cond.holds, Cond.value, hn, hm, hst, hsig]
theorem own_ltA {a : Addr} {n : Nat} (h : n > a) : a < n := h
theorem own_shr0 (x : Int32) : x >>> ((0 : Int32) &&& 31) = x := by rw [show ((0 : Int32) &&& 31) = 0 from by decide]; simp
theorem own_shl0 (x : Int32) : x <<< ((0 : Int32) &&& 31) = x := by rw [show ((0 : Int32) &&& 31) = 0 from by decide]; simp
theorem own_sub0 (x : Int32) : x - (0 : Int32) = x := by simp
abbrev own_cp (vd vs : List Value) (dp sp nn : Int32) : List Value := vd.take dp.toNatClampNeg ++ ((List.range nn.toNatClampNeg).map fun i => vs.getD (sp.toNatClampNeg + i) (.int (0 : Int32))) ++ vd.drop (dp.toNatClampNeg + nn.toNatClampNeg)
theorem own_inst {Z : State} {h : Heap} {a : Addr} {C own K : String} {idx : Nat} {a0 : Array Value} {d : ClassId} (E : Exa Z h a C) (w : (Cond.classLink own idx K).before a0 Z = true) (hd : Z.vm.findClass own = some d) : Ins Z h a K true ∨ ∃ c t, Z.vm.findClass C = some c ∧ Z.vm.findClass K = some t ∧ Z.vm.assignable c t = false := by
  obtain ⟨cell, k, h1, h2, h3, h4, h5⟩ := E
  obtain ⟨cT, hT, -⟩ := Cond.classLink_spec hd w {} rfl
  cases hb : Z.vm.assignable cell.cls cT
  · exact Or.inr ⟨cell.cls, cT, h2, hT, hb⟩
  · exact Or.inl ⟨cell, cT, h1, hT, by simp [h4, hb]⟩
end Own
abbrev mt0 : MethodName := (⟨"java/util/Objects", "requireNonNull", "(Ljava/lang/Object;Ljava/lang/String;)Ljava/lang/Object;"⟩ : MethodName)
theorem pn_java_util_Objects : plainName "java/util/Objects" = true := by first | (simp [plainName, overriddenIn]; done) | decide +kernel
theorem ef_own_rnn (m : MethodId) (x0 : Addr) (x1 : Addr) : entryFrame m #[(.ref x0), (.ref x1)] 2 = mkF m 0 #[.val (.ref x0), .val (.ref x1)] [] := by first | (simp [entryFrame, mkF, argsToLocals, Value.category]; done) | rfl
theorem d7_0 : decode jdk_31_method_11_code 0 = .ok (.aload_n 0, 1) := by decide +kernel
theorem d7_1 : decode jdk_31_method_11_code 1 = .ok (.ifnonnull 12, 3) := by decide +kernel
theorem d7_13 : decode jdk_31_method_11_code 13 = .ok (.aload_n 0, 1) := by decide +kernel
theorem d7_14 : decode jdk_31_method_11_code 14 = .ok (.areturn, 1) := by decide +kernel
abbrev mt1 : MethodName := (⟨"java/lang/String", "isEmpty", "()Z"⟩ : MethodName)
theorem pn_java_lang_String : plainName "java/lang/String" = true := by first | (simp [plainName, overriddenIn]; done) | decide +kernel
theorem ef_own_empty (m : MethodId) (x0 : Addr) : entryFrame m #[(.ref x0)] 1 = mkF m 0 #[.val (.ref x0)] [] := by first | (simp [entryFrame, mkF, argsToLocals, Value.category]; done) | rfl
theorem d8_0 : decode jdk_42_method_55_code 0 = .ok (.aload_n 0, 1) := by decide +kernel
theorem d8_1 : decode jdk_42_method_55_code 1 = .ok (.getfield 9, 3) := by decide +kernel
theorem wd64 {Z : State} {a0 : Array Value} (hw : ∀ d ∈ tables_1, d.before a0 Z = true) : ((Jvm.Cond.fieldLink "java/lang/String" (9 : Nat) "java/lang/String" "value" "[B") : Jvm.Cond).before a0 Z = true := hw _ (List.mem_of_getElem? (i := 64) rfl)
theorem d8_4 : decode jdk_42_method_55_code 4 = .ok (.arraylength, 1) := by decide +kernel
theorem d8_5 : decode jdk_42_method_55_code 5 = .ok (.ifCond .ne 7, 3) := by decide +kernel
theorem d8_8 : decode jdk_42_method_55_code 8 = .ok (.iconst 1, 1) := by decide +kernel
theorem d8_9 : decode jdk_42_method_55_code 9 = .ok (.goto 4, 3) := by decide +kernel
theorem d8_13 : decode jdk_42_method_55_code 13 = .ok (.ireturn, 1) := by decide +kernel
theorem d8_12 : decode jdk_42_method_55_code 12 = .ok (.iconst 0, 1) := by decide +kernel
abbrev mt2 : MethodName := (⟨"com/example/object_access_rules/objectaccessrules/Result", "<init>", "(Lcom/example/object_access_rules/objectaccessrules/Decision;Lcom/example/object_access_rules/objectaccessrules/StatusCode;Ljava/lang/String;Ljava/lang/String;Lcom/example/object_access_rules/objectaccessrules/Result;)V"⟩ : MethodName)
theorem pn_com_example_object_access_rules_objectaccessrules_Result : plainName "com/example/object_access_rules/objectaccessrules/Result" = true := by first | (simp [plainName, overriddenIn]; done) | decide +kernel
theorem ef_own_r5N (m : MethodId) (x0 : Addr) (x1 : Addr) (x2 : Addr) (x3 : Addr) : entryFrame m #[(.ref x0), (.ref x1), (.ref x2), (.ref x3), .null, .null] 6 = mkF m 0 #[.val (.ref x0), .val (.ref x1), .val (.ref x2), .val (.ref x3), .val .null, .val .null] [] := by first | (simp [entryFrame, mkF, argsToLocals, Value.category]; done) | rfl
theorem wd2 {Z : State} {a0 : Array Value} (hw : ∀ d ∈ tables_1, d.before a0 Z = true) : ((Jvm.Cond.instantiable "com/example/object_access_rules/objectaccessrules/Result" (5 : Nat)) : Jvm.Cond).before a0 Z = true := hw _ (List.mem_of_getElem? (i := 2) rfl)
theorem wd22 {Z : State} {a0 : Array Value} (hw : ∀ d ∈ tables_1, d.before a0 Z = true) : ((Jvm.Cond.instantiable "java/lang/String" (4 : Nat)) : Jvm.Cond).before a0 Z = true := hw _ (List.mem_of_getElem? (i := 22) rfl)
theorem d5_0 : decode prog_37_method_3_code 0 = .ok (.aload_n 0, 1) := by decide +kernel
theorem d5_1 : decode prog_37_method_3_code 1 = .ok (.invokespecial 12, 3) := by decide +kernel
theorem wd34 {Z : State} {a0 : Array Value} (hw : ∀ d ∈ tables_1, d.before a0 Z = true) : ((Jvm.Cond.methodLink "com/example/object_access_rules/objectaccessrules/Result" (12 : Nat) ({ cls := "java/lang/Object", name := "<init>", desc := "()V" } : Jvm.MethodName)) : Jvm.Cond).before a0 Z = true := hw _ (List.mem_of_getElem? (i := 34) rfl)
theorem wd35 {Z : State} {a0 : Array Value} (hw : ∀ d ∈ tables_1, d.before a0 Z = true) : ((Jvm.Cond.instanceMethod ({ cls := "java/lang/Object", name := "<init>", desc := "()V" } : Jvm.MethodName)) : Jvm.Cond).before a0 Z = true := hw _ (List.mem_of_getElem? (i := 35) rfl)
theorem wd36 {Z : State} {a0 : Array Value} (hw : ∀ d ∈ tables_1, d.before a0 Z = true) : ((Jvm.Cond.code ({ cls := "java/lang/Object", name := "<init>", desc := "()V" } : Jvm.MethodName) object_method_1_code (1 : Nat) (Option.none : Option Jvm.ClassFile.FieldType)) : Jvm.Cond).before a0 Z = true := hw _ (List.mem_of_getElem? (i := 36) rfl)
theorem d5_4 : decode prog_37_method_3_code 4 = .ok (.aload_n 0, 1) := by decide +kernel
theorem d5_5 : decode prog_37_method_3_code 5 = .ok (.aload_n 1, 1) := by decide +kernel
theorem d5_6 : decode prog_37_method_3_code 6 = .ok (.ldc 17, 2) := by decide +kernel
theorem wd37 {Z : State} {a0 : Array Value} (hw : ∀ d ∈ tables_1, d.before a0 Z = true) : ((Jvm.Cond.stringLink "com/example/object_access_rules/objectaccessrules/Result" (17 : Nat) "decision") : Jvm.Cond).before a0 Z = true := hw _ (List.mem_of_getElem? (i := 37) rfl)
theorem d5_8 : decode prog_37_method_3_code 8 = .ok (.invokestatic 19, 3) := by decide +kernel
theorem wd38 {Z : State} {a0 : Array Value} (hw : ∀ d ∈ tables_1, d.before a0 Z = true) : ((Jvm.Cond.methodLink "com/example/object_access_rules/objectaccessrules/Result" (19 : Nat) ({ cls := "java/util/Objects", name := "requireNonNull", desc := "(Ljava/lang/Object;Ljava/lang/String;)Ljava/lang/Object;" } : Jvm.MethodName)) : Jvm.Cond).before a0 Z = true := hw _ (List.mem_of_getElem? (i := 38) rfl)
theorem wd41 {Z : State} {a0 : Array Value} (hw : ∀ d ∈ tables_1, d.before a0 Z = true) : ((Jvm.Cond.code ({ cls := "java/util/Objects", name := "requireNonNull", desc := "(Ljava/lang/Object;Ljava/lang/String;)Ljava/lang/Object;" } : Jvm.MethodName) jdk_31_method_11_code (2 : Nat) (Option.some (Jvm.ClassFile.FieldType.object "java/lang/Object"))) : Jvm.Cond).before a0 Z = true := hw _ (List.mem_of_getElem? (i := 41) rfl)
theorem wd40 {Z : State} {a0 : Array Value} (hw : ∀ d ∈ tables_1, d.before a0 Z = true) : ((Jvm.Cond.initialized "java/util/Objects") : Jvm.Cond).before a0 Z = true := hw _ (List.mem_of_getElem? (i := 40) rfl)
theorem pd__Ljava_lang_Object_Ljava_lang_String__Ljava_lang_Object__5105 : parseMethodDescriptor "(Ljava/lang/Object;Ljava/lang/String;)Ljava/lang/Object;" = some ⟨[(.object "java/lang/Object"), (.object "java/lang/String")], some (.object "java/lang/Object")⟩ := by decide +kernel
theorem wd39 {Z : State} {a0 : Array Value} (hw : ∀ d ∈ tables_1, d.before a0 Z = true) : ((Jvm.Cond.static ({ cls := "java/util/Objects", name := "requireNonNull", desc := "(Ljava/lang/Object;Ljava/lang/String;)Ljava/lang/Object;" } : Jvm.MethodName)) : Jvm.Cond).before a0 Z = true := hw _ (List.mem_of_getElem? (i := 39) rfl)
theorem d5_11 : decode prog_37_method_3_code 11 = .ok (.checkcast 25, 3) := by decide +kernel
theorem wd42 {Z : State} {a0 : Array Value} (hw : ∀ d ∈ tables_1, d.before a0 Z = true) : ((Jvm.Cond.classLink "com/example/object_access_rules/objectaccessrules/Result" (25 : Nat) "com/example/object_access_rules/objectaccessrules/Decision") : Jvm.Cond).before a0 Z = true := hw _ (List.mem_of_getElem? (i := 42) rfl)
theorem d5_14 : decode prog_37_method_3_code 14 = .ok (.putfield 27, 3) := by decide +kernel
theorem wd44 {Z : State} {a0 : Array Value} (hw : ∀ d ∈ tables_1, d.before a0 Z = true) : ((Jvm.Cond.fieldLink "com/example/object_access_rules/objectaccessrules/Result" (27 : Nat) "com/example/object_access_rules/objectaccessrules/Result" "decision" "Lcom/example/object_access_rules/objectaccessrules/Decision;") : Jvm.Cond).before a0 Z = true := hw _ (List.mem_of_getElem? (i := 44) rfl)
theorem wd45 {Z : State} {a0 : Array Value} (hw : ∀ d ∈ tables_1, d.before a0 Z = true) : ((Jvm.Cond.laysFinal "com/example/object_access_rules/objectaccessrules/Result" "com/example/object_access_rules/objectaccessrules/Result" "decision" "Lcom/example/object_access_rules/objectaccessrules/Decision;") : Jvm.Cond).before a0 Z = true := hw _ (List.mem_of_getElem? (i := 45) rfl)
theorem d5_17 : decode prog_37_method_3_code 17 = .ok (.aload_n 0, 1) := by decide +kernel
theorem d5_18 : decode prog_37_method_3_code 18 = .ok (.aload_n 2, 1) := by decide +kernel
theorem d5_19 : decode prog_37_method_3_code 19 = .ok (.ldc 30, 2) := by decide +kernel
theorem wd46 {Z : State} {a0 : Array Value} (hw : ∀ d ∈ tables_1, d.before a0 Z = true) : ((Jvm.Cond.stringLink "com/example/object_access_rules/objectaccessrules/Result" (30 : Nat) "status") : Jvm.Cond).before a0 Z = true := hw _ (List.mem_of_getElem? (i := 46) rfl)
theorem d5_21 : decode prog_37_method_3_code 21 = .ok (.invokestatic 19, 3) := by decide +kernel
theorem d5_24 : decode prog_37_method_3_code 24 = .ok (.checkcast 32, 3) := by decide +kernel
theorem wd47 {Z : State} {a0 : Array Value} (hw : ∀ d ∈ tables_1, d.before a0 Z = true) : ((Jvm.Cond.classLink "com/example/object_access_rules/objectaccessrules/Result" (32 : Nat) "com/example/object_access_rules/objectaccessrules/StatusCode") : Jvm.Cond).before a0 Z = true := hw _ (List.mem_of_getElem? (i := 47) rfl)
theorem d5_27 : decode prog_37_method_3_code 27 = .ok (.putfield 34, 3) := by decide +kernel
theorem wd49 {Z : State} {a0 : Array Value} (hw : ∀ d ∈ tables_1, d.before a0 Z = true) : ((Jvm.Cond.fieldLink "com/example/object_access_rules/objectaccessrules/Result" (34 : Nat) "com/example/object_access_rules/objectaccessrules/Result" "status" "Lcom/example/object_access_rules/objectaccessrules/StatusCode;") : Jvm.Cond).before a0 Z = true := hw _ (List.mem_of_getElem? (i := 49) rfl)
theorem wd50 {Z : State} {a0 : Array Value} (hw : ∀ d ∈ tables_1, d.before a0 Z = true) : ((Jvm.Cond.laysFinal "com/example/object_access_rules/objectaccessrules/Result" "com/example/object_access_rules/objectaccessrules/Result" "status" "Lcom/example/object_access_rules/objectaccessrules/StatusCode;") : Jvm.Cond).before a0 Z = true := hw _ (List.mem_of_getElem? (i := 50) rfl)
theorem d5_30 : decode prog_37_method_3_code 30 = .ok (.aload_n 0, 1) := by decide +kernel
theorem d5_31 : decode prog_37_method_3_code 31 = .ok (.aload_n 3, 1) := by decide +kernel
theorem d5_32 : decode prog_37_method_3_code 32 = .ok (.ldc 37, 2) := by decide +kernel
theorem wd51 {Z : State} {a0 : Array Value} (hw : ∀ d ∈ tables_1, d.before a0 Z = true) : ((Jvm.Cond.stringLink "com/example/object_access_rules/objectaccessrules/Result" (37 : Nat) "message") : Jvm.Cond).before a0 Z = true := hw _ (List.mem_of_getElem? (i := 51) rfl)
theorem d5_34 : decode prog_37_method_3_code 34 = .ok (.invokestatic 19, 3) := by decide +kernel
theorem d5_37 : decode prog_37_method_3_code 37 = .ok (.checkcast 39, 3) := by decide +kernel
theorem wd52 {Z : State} {a0 : Array Value} (hw : ∀ d ∈ tables_1, d.before a0 Z = true) : ((Jvm.Cond.classLink "com/example/object_access_rules/objectaccessrules/Result" (39 : Nat) "java/lang/String") : Jvm.Cond).before a0 Z = true := hw _ (List.mem_of_getElem? (i := 52) rfl)
theorem d5_40 : decode prog_37_method_3_code 40 = .ok (.putfield 41, 3) := by decide +kernel
theorem wd54 {Z : State} {a0 : Array Value} (hw : ∀ d ∈ tables_1, d.before a0 Z = true) : ((Jvm.Cond.fieldLink "com/example/object_access_rules/objectaccessrules/Result" (41 : Nat) "com/example/object_access_rules/objectaccessrules/Result" "message" "Ljava/lang/String;") : Jvm.Cond).before a0 Z = true := hw _ (List.mem_of_getElem? (i := 54) rfl)
theorem wd55 {Z : State} {a0 : Array Value} (hw : ∀ d ∈ tables_1, d.before a0 Z = true) : ((Jvm.Cond.laysFinal "com/example/object_access_rules/objectaccessrules/Result" "com/example/object_access_rules/objectaccessrules/Result" "message" "Ljava/lang/String;") : Jvm.Cond).before a0 Z = true := hw _ (List.mem_of_getElem? (i := 55) rfl)
theorem d5_43 : decode prog_37_method_3_code 43 = .ok (.aload_n 1, 1) := by decide +kernel
theorem d5_44 : decode prog_37_method_3_code 44 = .ok (.getstatic 44, 3) := by decide +kernel
theorem wd56 {Z : State} {a0 : Array Value} (hw : ∀ d ∈ tables_1, d.before a0 Z = true) : ((Jvm.Cond.fieldLink "com/example/object_access_rules/objectaccessrules/Result" (44 : Nat) "com/example/object_access_rules/objectaccessrules/Decision" "INDETERMINATE" "Lcom/example/object_access_rules/objectaccessrules/Decision;") : Jvm.Cond).before a0 Z = true := hw _ (List.mem_of_getElem? (i := 56) rfl)
theorem d5_47 : decode prog_37_method_3_code 47 = .ok (.if_acmp .ne 7, 3) := by decide +kernel
theorem d5_50 : decode prog_37_method_3_code 50 = .ok (.iconst 1, 1) := by decide +kernel
theorem d5_51 : decode prog_37_method_3_code 51 = .ok (.goto 4, 3) := by decide +kernel
theorem d5_55 : decode prog_37_method_3_code 55 = .ok (.aload_n 2, 1) := by decide +kernel
theorem d5_56 : decode prog_37_method_3_code 56 = .ok (.getstatic 47, 3) := by decide +kernel
theorem wd58 {Z : State} {a0 : Array Value} (hw : ∀ d ∈ tables_1, d.before a0 Z = true) : ((Jvm.Cond.fieldLink "com/example/object_access_rules/objectaccessrules/Result" (47 : Nat) "com/example/object_access_rules/objectaccessrules/StatusCode" "OK" "Lcom/example/object_access_rules/objectaccessrules/StatusCode;") : Jvm.Cond).before a0 Z = true := hw _ (List.mem_of_getElem? (i := 58) rfl)
theorem d5_59 : decode prog_37_method_3_code 59 = .ok (.if_acmp .ne 7, 3) := by decide +kernel
theorem d5_66 : decode prog_37_method_3_code 66 = .ok (.iconst 0, 1) := by decide +kernel
theorem d5_67 : decode prog_37_method_3_code 67 = .ok (.if_icmp .ne 24, 3) := by decide +kernel
theorem d5_91 : decode prog_37_method_3_code 91 = .ok (.aload_n 1, 1) := by decide +kernel
theorem d5_92 : decode prog_37_method_3_code 92 = .ok (.getstatic 44, 3) := by decide +kernel
theorem d5_95 : decode prog_37_method_3_code 95 = .ok (.if_acmp .eq 28, 3) := by decide +kernel
theorem d5_123 : decode prog_37_method_3_code 123 = .ok (.aload_n 0, 1) := by decide +kernel
theorem d5_124 : decode prog_37_method_3_code 124 = .ok (.aload 4, 2) := by decide +kernel
theorem d5_126 : decode prog_37_method_3_code 126 = .ok (.putfield 71, 3) := by decide +kernel
theorem wd65 {Z : State} {a0 : Array Value} (hw : ∀ d ∈ tables_1, d.before a0 Z = true) : ((Jvm.Cond.fieldLink "com/example/object_access_rules/objectaccessrules/Result" (71 : Nat) "com/example/object_access_rules/objectaccessrules/Result" "step" "Ljava/lang/String;") : Jvm.Cond).before a0 Z = true := hw _ (List.mem_of_getElem? (i := 65) rfl)
theorem wd66 {Z : State} {a0 : Array Value} (hw : ∀ d ∈ tables_1, d.before a0 Z = true) : ((Jvm.Cond.laysFinal "com/example/object_access_rules/objectaccessrules/Result" "com/example/object_access_rules/objectaccessrules/Result" "step" "Ljava/lang/String;") : Jvm.Cond).before a0 Z = true := hw _ (List.mem_of_getElem? (i := 66) rfl)
theorem d5_129 : decode prog_37_method_3_code 129 = .ok (.aload_n 0, 1) := by decide +kernel
theorem d5_130 : decode prog_37_method_3_code 130 = .ok (.aload 5, 2) := by decide +kernel
theorem d5_132 : decode prog_37_method_3_code 132 = .ok (.putfield 74, 3) := by decide +kernel
theorem wd67 {Z : State} {a0 : Array Value} (hw : ∀ d ∈ tables_1, d.before a0 Z = true) : ((Jvm.Cond.fieldLink "com/example/object_access_rules/objectaccessrules/Result" (74 : Nat) "com/example/object_access_rules/objectaccessrules/Result" "below" "Lcom/example/object_access_rules/objectaccessrules/Result;") : Jvm.Cond).before a0 Z = true := hw _ (List.mem_of_getElem? (i := 67) rfl)
theorem wd68 {Z : State} {a0 : Array Value} (hw : ∀ d ∈ tables_1, d.before a0 Z = true) : ((Jvm.Cond.laysFinal "com/example/object_access_rules/objectaccessrules/Result" "com/example/object_access_rules/objectaccessrules/Result" "below" "Lcom/example/object_access_rules/objectaccessrules/Result;") : Jvm.Cond).before a0 Z = true := hw _ (List.mem_of_getElem? (i := 68) rfl)
theorem d5_135 : decode prog_37_method_3_code 135 = .ok (.return_, 1) := by decide +kernel
theorem d5_54 : decode prog_37_method_3_code 54 = .ok (.iconst 0, 1) := by decide +kernel
theorem d5_62 : decode prog_37_method_3_code 62 = .ok (.iconst 1, 1) := by decide +kernel
theorem d5_63 : decode prog_37_method_3_code 63 = .ok (.goto 4, 3) := by decide +kernel
theorem d5_98 : decode prog_37_method_3_code 98 = .ok (.aload_n 3, 1) := by decide +kernel
theorem d5_99 : decode prog_37_method_3_code 99 = .ok (.invokevirtual 66, 3) := by decide +kernel
theorem wd59 {Z : State} {a0 : Array Value} (hw : ∀ d ∈ tables_1, d.before a0 Z = true) : ((Jvm.Cond.methodLink "com/example/object_access_rules/objectaccessrules/Result" (66 : Nat) ({ cls := "java/lang/String", name := "isEmpty", desc := "()Z" } : Jvm.MethodName)) : Jvm.Cond).before a0 Z = true := hw _ (List.mem_of_getElem? (i := 59) rfl)
theorem wd63 {Z : State} {a0 : Array Value} (hw : ∀ d ∈ tables_1, d.before a0 Z = true) : ((Jvm.Cond.code ({ cls := "java/lang/String", name := "isEmpty", desc := "()Z" } : Jvm.MethodName) jdk_42_method_55_code (1 : Nat) (Option.some Jvm.ClassFile.FieldType.boolean)) : Jvm.Cond).before a0 Z = true := hw _ (List.mem_of_getElem? (i := 63) rfl)
theorem wd21 {Z : State} {a0 : Array Value} (hw : ∀ d ∈ tables_1, d.before a0 Z = true) : ((Jvm.Cond.initialized "java/lang/String") : Jvm.Cond).before a0 Z = true := hw _ (List.mem_of_getElem? (i := 21) rfl)
theorem pd___Z_171 : parseMethodDescriptor "()Z" = some ⟨[], some .boolean⟩ := by decide +kernel
theorem wd62 {Z : State} {a0 : Array Value} (hw : ∀ d ∈ tables_1, d.before a0 Z = true) : ((Jvm.Cond.selects "java/lang/String" ({ cls := "java/lang/String", name := "isEmpty", desc := "()Z" } : Jvm.MethodName) ({ cls := "java/lang/String", name := "isEmpty", desc := "()Z" } : Jvm.MethodName)) : Jvm.Cond).before a0 Z = true := hw _ (List.mem_of_getElem? (i := 62) rfl)
theorem wd60 {Z : State} {a0 : Array Value} (hw : ∀ d ∈ tables_1, d.before a0 Z = true) : ((Jvm.Cond.declares ({ cls := "java/lang/String", name := "isEmpty", desc := "()Z" } : Jvm.MethodName)) : Jvm.Cond).before a0 Z = true := hw _ (List.mem_of_getElem? (i := 60) rfl)
theorem wd61 {Z : State} {a0 : Array Value} (hw : ∀ d ∈ tables_1, d.before a0 Z = true) : ((Jvm.Cond.instanceMethod ({ cls := "java/lang/String", name := "isEmpty", desc := "()Z" } : Jvm.MethodName)) : Jvm.Cond).before a0 Z = true := hw _ (List.mem_of_getElem? (i := 61) rfl)
theorem d5_102 : decode prog_37_method_3_code 102 = .ok (.ifCond .ne 21, 3) := by decide +kernel
theorem ef_own_r5R (m : MethodId) (x0 : Addr) (x1 : Addr) (x2 : Addr) (x3 : Addr) (x4 : Addr) (x5 : Addr) : entryFrame m #[(.ref x0), (.ref x1), (.ref x2), (.ref x3), (.ref x4), (.ref x5)] 6 = mkF m 0 #[.val (.ref x0), .val (.ref x1), .val (.ref x2), .val (.ref x3), .val (.ref x4), .val (.ref x5)] [] := by first | (simp [entryFrame, mkF, argsToLocals, Value.category]; done) | rfl
abbrev mt3 : MethodName := (⟨"com/example/object_access_rules/objectaccessrules/Result", "<init>", "(Lcom/example/object_access_rules/objectaccessrules/Decision;Lcom/example/object_access_rules/objectaccessrules/StatusCode;Ljava/lang/String;)V"⟩ : MethodName)
theorem ef_own_r3 (m : MethodId) (x0 : Addr) (x1 : Addr) (x2 : Addr) (x3 : Addr) : entryFrame m #[(.ref x0), (.ref x1), (.ref x2), (.ref x3)] 4 = mkF m 0 #[.val (.ref x0), .val (.ref x1), .val (.ref x2), .val (.ref x3)] [] := by first | (simp [entryFrame, mkF, argsToLocals, Value.category]; done) | rfl
theorem d4_0 : decode prog_37_method_1_code 0 = .ok (.aload_n 0, 1) := by decide +kernel
theorem d4_1 : decode prog_37_method_1_code 1 = .ok (.aload_n 1, 1) := by decide +kernel
theorem d4_2 : decode prog_37_method_1_code 2 = .ok (.aload_n 2, 1) := by decide +kernel
theorem d4_3 : decode prog_37_method_1_code 3 = .ok (.aload_n 3, 1) := by decide +kernel
theorem d4_4 : decode prog_37_method_1_code 4 = .ok (.aconst_null, 1) := by decide +kernel
theorem d4_5 : decode prog_37_method_1_code 5 = .ok (.aconst_null, 1) := by decide +kernel
theorem d4_6 : decode prog_37_method_1_code 6 = .ok (.invokespecial 1, 3) := by decide +kernel
theorem wd31 {Z : State} {a0 : Array Value} (hw : ∀ d ∈ tables_1, d.before a0 Z = true) : ((Jvm.Cond.methodLink "com/example/object_access_rules/objectaccessrules/Result" (1 : Nat) ({ cls := "com/example/object_access_rules/objectaccessrules/Result", name := "<init>", desc := "(Lcom/example/object_access_rules/objectaccessrules/Decision;Lcom/example/object_access_rules/objectaccessrules/StatusCode;Ljava/lang/String;Ljava/lang/String;Lcom/example/object_access_rules/objectaccessrules/Result;)V" } : Jvm.MethodName)) : Jvm.Cond).before a0 Z = true := hw _ (List.mem_of_getElem? (i := 31) rfl)
theorem wd33 {Z : State} {a0 : Array Value} (hw : ∀ d ∈ tables_1, d.before a0 Z = true) : ((Jvm.Cond.code ({ cls := "com/example/object_access_rules/objectaccessrules/Result", name := "<init>", desc := "(Lcom/example/object_access_rules/objectaccessrules/Decision;Lcom/example/object_access_rules/objectaccessrules/StatusCode;Ljava/lang/String;Ljava/lang/String;Lcom/example/object_access_rules/objectaccessrules/Result;)V" } : Jvm.MethodName) prog_37_method_3_code (6 : Nat) (Option.none : Option Jvm.ClassFile.FieldType)) : Jvm.Cond).before a0 Z = true := hw _ (List.mem_of_getElem? (i := 33) rfl)
theorem wd3 {Z : State} {a0 : Array Value} (hw : ∀ d ∈ tables_1, d.before a0 Z = true) : ((Jvm.Cond.initialized "com/example/object_access_rules/objectaccessrules/Result") : Jvm.Cond).before a0 Z = true := hw _ (List.mem_of_getElem? (i := 3) rfl)
theorem pd__Lcom_example_object_access_rules_objectaccessrules_Decision_Lcom_example_object_access_rules_objectaccessrules_StatusCode_Ljava_lang_String_Ljava_lang_String_Lcom_example_object_access_rules_objectaccessrules_Result__V_1701 : parseMethodDescriptor "(Lcom/example/object_access_rules/objectaccessrules/Decision;Lcom/example/object_access_rules/objectaccessrules/StatusCode;Ljava/lang/String;Ljava/lang/String;Lcom/example/object_access_rules/objectaccessrules/Result;)V" = some ⟨[(.object "com/example/object_access_rules/objectaccessrules/Decision"), (.object "com/example/object_access_rules/objectaccessrules/StatusCode"), (.object "java/lang/String"), (.object "java/lang/String"), (.object "com/example/object_access_rules/objectaccessrules/Result")], none⟩ := by decide +kernel
theorem wd32 {Z : State} {a0 : Array Value} (hw : ∀ d ∈ tables_1, d.before a0 Z = true) : ((Jvm.Cond.instanceMethod ({ cls := "com/example/object_access_rules/objectaccessrules/Result", name := "<init>", desc := "(Lcom/example/object_access_rules/objectaccessrules/Decision;Lcom/example/object_access_rules/objectaccessrules/StatusCode;Ljava/lang/String;Ljava/lang/String;Lcom/example/object_access_rules/objectaccessrules/Result;)V" } : Jvm.MethodName)) : Jvm.Cond).before a0 Z = true := hw _ (List.mem_of_getElem? (i := 32) rfl)
theorem d4_9 : decode prog_37_method_1_code 9 = .ok (.return_, 1) := by decide +kernel
abbrev mt4 : MethodName := (⟨"java/lang/StringLatin1", "canEncode", "(C)Z"⟩ : MethodName)
theorem pn_java_lang_StringLatin1 : plainName "java/lang/StringLatin1" = true := by first | (simp [plainName, overriddenIn]; done) | decide +kernel
theorem ef_own_canEnc (m : MethodId) (x0 : Int32) : entryFrame m #[(.int x0)] 1 = mkF m 0 #[.val (.int x0)] [] := by first | (simp [entryFrame, mkF, argsToLocals, Value.category]; done) | rfl
theorem d16_0 : decode jdk_43_method_3_code 0 = .ok (.iload_n 0, 1) := by decide +kernel
theorem d16_1 : decode jdk_43_method_3_code 1 = .ok (.sipush 255, 3) := by decide +kernel
theorem d16_4 : decode jdk_43_method_3_code 4 = .ok (.if_icmp .gt 7, 3) := by decide +kernel
theorem d16_11 : decode jdk_43_method_3_code 11 = .ok (.iconst 0, 1) := by decide +kernel
theorem d16_12 : decode jdk_43_method_3_code 12 = .ok (.ireturn, 1) := by decide +kernel
theorem d16_7 : decode jdk_43_method_3_code 7 = .ok (.iconst 1, 1) := by decide +kernel
theorem d16_8 : decode jdk_43_method_3_code 8 = .ok (.goto 4, 3) := by decide +kernel
abbrev mt5 : MethodName := (⟨"java/lang/StringLatin1", "toBytes", "(C)[B"⟩ : MethodName)
theorem ef_own_toBytes (m : MethodId) (x0 : Int32) : entryFrame m #[(.int x0)] 1 = mkF m 0 #[.val (.int x0)] [] := by first | (simp [entryFrame, mkF, argsToLocals, Value.category]; done) | rfl
theorem d17_0 : decode jdk_43_method_46_code 0 = .ok (.iconst 1, 1) := by decide +kernel
theorem d17_1 : decode jdk_43_method_46_code 1 = .ok (.newarray .byte, 2) := by decide +kernel
theorem wd23 {Z : State} {a0 : Array Value} (hw : ∀ d ∈ tables_1, d.before a0 Z = true) : ((Jvm.Cond.arrayClass Jvm.ClassFile.FieldType.byte) : Jvm.Cond).before a0 Z = true := hw _ (List.mem_of_getElem? (i := 23) rfl)
theorem d17_3 : decode jdk_43_method_46_code 3 = .ok (.dup, 1) := by decide +kernel
theorem d17_4 : decode jdk_43_method_46_code 4 = .ok (.iconst 0, 1) := by decide +kernel
theorem d17_5 : decode jdk_43_method_46_code 5 = .ok (.iload_n 0, 1) := by decide +kernel
theorem d17_6 : decode jdk_43_method_46_code 6 = .ok (.i2b, 1) := by decide +kernel
theorem d17_7 : decode jdk_43_method_46_code 7 = .ok (.bastore, 1) := by decide +kernel
theorem d17_8 : decode jdk_43_method_46_code 8 = .ok (.areturn, 1) := by decide +kernel
abbrev mt6 : MethodName := (⟨"java/lang/String", "<init>", "([BB)V"⟩ : MethodName)
theorem ef_own_strBB (m : MethodId) (x0 : Addr) (x1 : Addr) (x2 : Int32) : entryFrame m #[(.ref x0), (.ref x1), (.int x2)] 3 = mkF m 0 #[.val (.ref x0), .val (.ref x1), .val (.int x2)] [] := by first | (simp [entryFrame, mkF, argsToLocals, Value.category]; done) | rfl
theorem d18_0 : decode jdk_42_method_151_code 0 = .ok (.aload_n 0, 1) := by decide +kernel
theorem d18_1 : decode jdk_42_method_151_code 1 = .ok (.invokespecial 1, 3) := by decide +kernel
theorem wd80 {Z : State} {a0 : Array Value} (hw : ∀ d ∈ tables_1, d.before a0 Z = true) : ((Jvm.Cond.methodLink "java/lang/String" (1 : Nat) ({ cls := "java/lang/Object", name := "<init>", desc := "()V" } : Jvm.MethodName)) : Jvm.Cond).before a0 Z = true := hw _ (List.mem_of_getElem? (i := 80) rfl)
theorem d18_4 : decode jdk_42_method_151_code 4 = .ok (.aload_n 0, 1) := by decide +kernel
theorem d18_5 : decode jdk_42_method_151_code 5 = .ok (.aload_n 1, 1) := by decide +kernel
theorem d18_6 : decode jdk_42_method_151_code 6 = .ok (.putfield 9, 3) := by decide +kernel
theorem wd24 {Z : State} {a0 : Array Value} (hw : ∀ d ∈ tables_1, d.before a0 Z = true) : ((Jvm.Cond.laysFinal "java/lang/String" "java/lang/String" "value" "[B") : Jvm.Cond).before a0 Z = true := hw _ (List.mem_of_getElem? (i := 24) rfl)
theorem d18_9 : decode jdk_42_method_151_code 9 = .ok (.aload_n 0, 1) := by decide +kernel
theorem d18_10 : decode jdk_42_method_151_code 10 = .ok (.iload_n 2, 1) := by decide +kernel
theorem d18_11 : decode jdk_42_method_151_code 11 = .ok (.putfield 15, 3) := by decide +kernel
theorem wd92 {Z : State} {a0 : Array Value} (hw : ∀ d ∈ tables_1, d.before a0 Z = true) : ((Jvm.Cond.fieldLink "java/lang/String" (15 : Nat) "java/lang/String" "coder" "B") : Jvm.Cond).before a0 Z = true := hw _ (List.mem_of_getElem? (i := 92) rfl)
theorem wd25 {Z : State} {a0 : Array Value} (hw : ∀ d ∈ tables_1, d.before a0 Z = true) : ((Jvm.Cond.laysFinal "java/lang/String" "java/lang/String" "coder" "B") : Jvm.Cond).before a0 Z = true := hw _ (List.mem_of_getElem? (i := 25) rfl)
theorem d18_14 : decode jdk_42_method_151_code 14 = .ok (.return_, 1) := by decide +kernel
abbrev mt7 : MethodName := (⟨"java/lang/String", "valueOf", "(C)Ljava/lang/String;"⟩ : MethodName)
theorem ef_own_valueOf (m : MethodId) (x0 : Int32) : entryFrame m #[(.int x0)] 1 = mkF m 0 #[.val (.int x0)] [] := by first | (simp [entryFrame, mkF, argsToLocals, Value.category]; done) | rfl
theorem d15_0 : decode jdk_42_method_139_code 0 = .ok (.getstatic 38, 3) := by decide +kernel
theorem wd81 {Z : State} {a0 : Array Value} (hw : ∀ d ∈ tables_1, d.before a0 Z = true) : ((Jvm.Cond.fieldLink "java/lang/String" (38 : Nat) "java/lang/String" "COMPACT_STRINGS" "Z") : Jvm.Cond).before a0 Z = true := hw _ (List.mem_of_getElem? (i := 81) rfl)
theorem d15_3 : decode jdk_42_method_139_code 3 = .ok (.ifCond .eq 23, 3) := by decide +kernel
theorem d15_6 : decode jdk_42_method_139_code 6 = .ok (.iload_n 0, 1) := by decide +kernel
theorem d15_7 : decode jdk_42_method_139_code 7 = .ok (.invokestatic 1015, 3) := by decide +kernel
theorem wd105 {Z : State} {a0 : Array Value} (hw : ∀ d ∈ tables_1, d.before a0 Z = true) : ((Jvm.Cond.methodLink "java/lang/String" (1015 : Nat) ({ cls := "java/lang/StringLatin1", name := "canEncode", desc := "(C)Z" } : Jvm.MethodName)) : Jvm.Cond).before a0 Z = true := hw _ (List.mem_of_getElem? (i := 105) rfl)
theorem wd108 {Z : State} {a0 : Array Value} (hw : ∀ d ∈ tables_1, d.before a0 Z = true) : ((Jvm.Cond.code ({ cls := "java/lang/StringLatin1", name := "canEncode", desc := "(C)Z" } : Jvm.MethodName) jdk_43_method_3_code (1 : Nat) (Option.some Jvm.ClassFile.FieldType.boolean)) : Jvm.Cond).before a0 Z = true := hw _ (List.mem_of_getElem? (i := 108) rfl)
theorem wd107 {Z : State} {a0 : Array Value} (hw : ∀ d ∈ tables_1, d.before a0 Z = true) : ((Jvm.Cond.initialized "java/lang/StringLatin1") : Jvm.Cond).before a0 Z = true := hw _ (List.mem_of_getElem? (i := 107) rfl)
theorem pd__C_Z_238 : parseMethodDescriptor "(C)Z" = some ⟨[.char], some .boolean⟩ := by decide +kernel
theorem wd106 {Z : State} {a0 : Array Value} (hw : ∀ d ∈ tables_1, d.before a0 Z = true) : ((Jvm.Cond.static ({ cls := "java/lang/StringLatin1", name := "canEncode", desc := "(C)Z" } : Jvm.MethodName)) : Jvm.Cond).before a0 Z = true := hw _ (List.mem_of_getElem? (i := 106) rfl)
theorem d15_10 : decode jdk_42_method_139_code 10 = .ok (.ifCond .eq 16, 3) := by decide +kernel
theorem d15_13 : decode jdk_42_method_139_code 13 = .ok (.new 10, 3) := by decide +kernel
theorem wd109 {Z : State} {a0 : Array Value} (hw : ∀ d ∈ tables_1, d.before a0 Z = true) : ((Jvm.Cond.classLink "java/lang/String" (10 : Nat) "java/lang/String") : Jvm.Cond).before a0 Z = true := hw _ (List.mem_of_getElem? (i := 109) rfl)
theorem d15_16 : decode jdk_42_method_139_code 16 = .ok (.dup, 1) := by decide +kernel
theorem d15_17 : decode jdk_42_method_139_code 17 = .ok (.iload_n 0, 1) := by decide +kernel
theorem d15_18 : decode jdk_42_method_139_code 18 = .ok (.invokestatic 1018, 3) := by decide +kernel
theorem wd110 {Z : State} {a0 : Array Value} (hw : ∀ d ∈ tables_1, d.before a0 Z = true) : ((Jvm.Cond.methodLink "java/lang/String" (1018 : Nat) ({ cls := "java/lang/StringLatin1", name := "toBytes", desc := "(C)[B" } : Jvm.MethodName)) : Jvm.Cond).before a0 Z = true := hw _ (List.mem_of_getElem? (i := 110) rfl)
theorem wd112 {Z : State} {a0 : Array Value} (hw : ∀ d ∈ tables_1, d.before a0 Z = true) : ((Jvm.Cond.code ({ cls := "java/lang/StringLatin1", name := "toBytes", desc := "(C)[B" } : Jvm.MethodName) jdk_43_method_46_code (1 : Nat) (Option.some (Jvm.ClassFile.FieldType.array Jvm.ClassFile.FieldType.byte))) : Jvm.Cond).before a0 Z = true := hw _ (List.mem_of_getElem? (i := 112) rfl)
theorem pd__C__B_305 : parseMethodDescriptor "(C)[B" = some ⟨[.char], some (.array .byte)⟩ := by decide +kernel
theorem wd111 {Z : State} {a0 : Array Value} (hw : ∀ d ∈ tables_1, d.before a0 Z = true) : ((Jvm.Cond.static ({ cls := "java/lang/StringLatin1", name := "toBytes", desc := "(C)[B" } : Jvm.MethodName)) : Jvm.Cond).before a0 Z = true := hw _ (List.mem_of_getElem? (i := 111) rfl)
theorem d15_21 : decode jdk_42_method_139_code 21 = .ok (.iconst 0, 1) := by decide +kernel
theorem d15_22 : decode jdk_42_method_139_code 22 = .ok (.invokespecial 209, 3) := by decide +kernel
theorem wd113 {Z : State} {a0 : Array Value} (hw : ∀ d ∈ tables_1, d.before a0 Z = true) : ((Jvm.Cond.methodLink "java/lang/String" (209 : Nat) ({ cls := "java/lang/String", name := "<init>", desc := "([BB)V" } : Jvm.MethodName)) : Jvm.Cond).before a0 Z = true := hw _ (List.mem_of_getElem? (i := 113) rfl)
theorem wd115 {Z : State} {a0 : Array Value} (hw : ∀ d ∈ tables_1, d.before a0 Z = true) : ((Jvm.Cond.code ({ cls := "java/lang/String", name := "<init>", desc := "([BB)V" } : Jvm.MethodName) jdk_42_method_151_code (3 : Nat) (Option.none : Option Jvm.ClassFile.FieldType)) : Jvm.Cond).before a0 Z = true := hw _ (List.mem_of_getElem? (i := 115) rfl)
theorem pd___BB_V_390 : parseMethodDescriptor "([BB)V" = some ⟨[(.array .byte), .byte], none⟩ := by decide +kernel
theorem wd114 {Z : State} {a0 : Array Value} (hw : ∀ d ∈ tables_1, d.before a0 Z = true) : ((Jvm.Cond.instanceMethod ({ cls := "java/lang/String", name := "<init>", desc := "([BB)V" } : Jvm.MethodName)) : Jvm.Cond).before a0 Z = true := hw _ (List.mem_of_getElem? (i := 114) rfl)
theorem d15_25 : decode jdk_42_method_139_code 25 = .ok (.areturn, 1) := by decide +kernel
abbrev mt8 : MethodName := (⟨"com/example/object_access_rules/objectaccessrules/ResultEqualsPinLaw", "dec", "(I)Lcom/example/object_access_rules/objectaccessrules/Decision;"⟩ : MethodName)
theorem pn_com_example_object_access_rules_objectaccessrules_ResultEqualsPinLaw : plainName "com/example/object_access_rules/objectaccessrules/ResultEqualsPinLaw" = true := by first | (simp [plainName, overriddenIn]; done) | decide +kernel
theorem ef_own_dec (m : MethodId) (x0 : Int32) : entryFrame m #[(.int x0)] 1 = mkF m 0 #[.val (.int x0)] [] := by first | (simp [entryFrame, mkF, argsToLocals, Value.category]; done) | rfl
theorem d1_0 : decode method_2_code 0 = .ok (.iload_n 0, 1) := by decide +kernel
theorem d1_1 : decode method_2_code 1 = .ok (.ifCond .ne 7, 3) := by decide +kernel
theorem d1_4 : decode method_2_code 4 = .ok (.getstatic 7, 3) := by decide +kernel
theorem wd8 {Z : State} {a0 : Array Value} (hw : ∀ d ∈ tables_1, d.before a0 Z = true) : ((Jvm.Cond.fieldLink "com/example/object_access_rules/objectaccessrules/ResultEqualsPinLaw" (7 : Nat) "com/example/object_access_rules/objectaccessrules/Decision" "PERMIT" "Lcom/example/object_access_rules/objectaccessrules/Decision;") : Jvm.Cond).before a0 Z = true := hw _ (List.mem_of_getElem? (i := 8) rfl)
theorem d1_7 : decode method_2_code 7 = .ok (.areturn, 1) := by decide +kernel
theorem d1_8 : decode method_2_code 8 = .ok (.iload_n 0, 1) := by decide +kernel
theorem d1_9 : decode method_2_code 9 = .ok (.iconst 1, 1) := by decide +kernel
theorem d1_10 : decode method_2_code 10 = .ok (.if_icmp .ne 7, 3) := by decide +kernel
theorem d1_13 : decode method_2_code 13 = .ok (.getstatic 13, 3) := by decide +kernel
theorem wd124 {Z : State} {a0 : Array Value} (hw : ∀ d ∈ tables_1, d.before a0 Z = true) : ((Jvm.Cond.fieldLink "com/example/object_access_rules/objectaccessrules/ResultEqualsPinLaw" (13 : Nat) "com/example/object_access_rules/objectaccessrules/Decision" "DENY" "Lcom/example/object_access_rules/objectaccessrules/Decision;") : Jvm.Cond).before a0 Z = true := hw _ (List.mem_of_getElem? (i := 124) rfl)
theorem d1_16 : decode method_2_code 16 = .ok (.areturn, 1) := by decide +kernel
theorem d1_17 : decode method_2_code 17 = .ok (.iload_n 0, 1) := by decide +kernel
theorem d1_18 : decode method_2_code 18 = .ok (.iconst 2, 1) := by decide +kernel
theorem d1_19 : decode method_2_code 19 = .ok (.if_icmp .ne 7, 3) := by decide +kernel
theorem d1_22 : decode method_2_code 22 = .ok (.getstatic 16, 3) := by decide +kernel
theorem wd123 {Z : State} {a0 : Array Value} (hw : ∀ d ∈ tables_1, d.before a0 Z = true) : ((Jvm.Cond.fieldLink "com/example/object_access_rules/objectaccessrules/ResultEqualsPinLaw" (16 : Nat) "com/example/object_access_rules/objectaccessrules/Decision" "NOT_APPLICABLE" "Lcom/example/object_access_rules/objectaccessrules/Decision;") : Jvm.Cond).before a0 Z = true := hw _ (List.mem_of_getElem? (i := 123) rfl)
theorem d1_25 : decode method_2_code 25 = .ok (.areturn, 1) := by decide +kernel
theorem d1_26 : decode method_2_code 26 = .ok (.getstatic 19, 3) := by decide +kernel
theorem wd69 {Z : State} {a0 : Array Value} (hw : ∀ d ∈ tables_1, d.before a0 Z = true) : ((Jvm.Cond.fieldLink "com/example/object_access_rules/objectaccessrules/ResultEqualsPinLaw" (19 : Nat) "com/example/object_access_rules/objectaccessrules/Decision" "INDETERMINATE" "Lcom/example/object_access_rules/objectaccessrules/Decision;") : Jvm.Cond).before a0 Z = true := hw _ (List.mem_of_getElem? (i := 69) rfl)
theorem d1_29 : decode method_2_code 29 = .ok (.areturn, 1) := by decide +kernel
abbrev mt9 : MethodName := (⟨"com/example/object_access_rules/objectaccessrules/ResultEqualsPinLaw", "st", "(I)Lcom/example/object_access_rules/objectaccessrules/StatusCode;"⟩ : MethodName)
theorem ef_own_st (m : MethodId) (x0 : Int32) : entryFrame m #[(.int x0)] 1 = mkF m 0 #[.val (.int x0)] [] := by first | (simp [entryFrame, mkF, argsToLocals, Value.category]; done) | rfl
theorem d2_0 : decode method_3_code 0 = .ok (.iload_n 0, 1) := by decide +kernel
theorem d2_1 : decode method_3_code 1 = .ok (.iconst 3, 1) := by decide +kernel
theorem d2_2 : decode method_3_code 2 = .ok (.if_icmp .ge 7, 3) := by decide +kernel
theorem d2_5 : decode method_3_code 5 = .ok (.getstatic 22, 3) := by decide +kernel
theorem wd14 {Z : State} {a0 : Array Value} (hw : ∀ d ∈ tables_1, d.before a0 Z = true) : ((Jvm.Cond.fieldLink "com/example/object_access_rules/objectaccessrules/ResultEqualsPinLaw" (22 : Nat) "com/example/object_access_rules/objectaccessrules/StatusCode" "OK" "Lcom/example/object_access_rules/objectaccessrules/StatusCode;") : Jvm.Cond).before a0 Z = true := hw _ (List.mem_of_getElem? (i := 14) rfl)
theorem d2_8 : decode method_3_code 8 = .ok (.areturn, 1) := by decide +kernel
theorem d2_9 : decode method_3_code 9 = .ok (.iload_n 0, 1) := by decide +kernel
theorem d2_10 : decode method_3_code 10 = .ok (.iconst 3, 1) := by decide +kernel
theorem d2_11 : decode method_3_code 11 = .ok (.if_icmp .ne 7, 3) := by decide +kernel
theorem d2_14 : decode method_3_code 14 = .ok (.getstatic 28, 3) := by decide +kernel
theorem wd70 {Z : State} {a0 : Array Value} (hw : ∀ d ∈ tables_1, d.before a0 Z = true) : ((Jvm.Cond.fieldLink "com/example/object_access_rules/objectaccessrules/ResultEqualsPinLaw" (28 : Nat) "com/example/object_access_rules/objectaccessrules/StatusCode" "MISSING_ATTRIBUTE" "Lcom/example/object_access_rules/objectaccessrules/StatusCode;") : Jvm.Cond).before a0 Z = true := hw _ (List.mem_of_getElem? (i := 70) rfl)
theorem d2_17 : decode method_3_code 17 = .ok (.areturn, 1) := by decide +kernel
theorem d2_18 : decode method_3_code 18 = .ok (.iload_n 0, 1) := by decide +kernel
theorem d2_19 : decode method_3_code 19 = .ok (.iconst 4, 1) := by decide +kernel
theorem d2_20 : decode method_3_code 20 = .ok (.if_icmp .ne 7, 3) := by decide +kernel
theorem d2_23 : decode method_3_code 23 = .ok (.getstatic 31, 3) := by decide +kernel
theorem wd100 {Z : State} {a0 : Array Value} (hw : ∀ d ∈ tables_1, d.before a0 Z = true) : ((Jvm.Cond.fieldLink "com/example/object_access_rules/objectaccessrules/ResultEqualsPinLaw" (31 : Nat) "com/example/object_access_rules/objectaccessrules/StatusCode" "PROCESSING_ERROR" "Lcom/example/object_access_rules/objectaccessrules/StatusCode;") : Jvm.Cond).before a0 Z = true := hw _ (List.mem_of_getElem? (i := 100) rfl)
theorem d2_26 : decode method_3_code 26 = .ok (.areturn, 1) := by decide +kernel
theorem d2_27 : decode method_3_code 27 = .ok (.getstatic 34, 3) := by decide +kernel
theorem wd128 {Z : State} {a0 : Array Value} (hw : ∀ d ∈ tables_1, d.before a0 Z = true) : ((Jvm.Cond.fieldLink "com/example/object_access_rules/objectaccessrules/ResultEqualsPinLaw" (34 : Nat) "com/example/object_access_rules/objectaccessrules/StatusCode" "SYNTAX_ERROR" "Lcom/example/object_access_rules/objectaccessrules/StatusCode;") : Jvm.Cond).before a0 Z = true := hw _ (List.mem_of_getElem? (i := 128) rfl)
theorem d2_30 : decode method_3_code 30 = .ok (.areturn, 1) := by decide +kernel
abbrev mt10 : MethodName := (⟨"com/example/object_access_rules/objectaccessrules/ResultEqualsPinLaw", "msg", "(IIZ)Ljava/lang/String;"⟩ : MethodName)
theorem ef_own_msg (m : MethodId) (x0 : Int32) (x1 : Int32) (x2 : Int32) : entryFrame m #[(.int x0), (.int x1), (.int x2)] 4 = mkF m 0 #[.val (.int x0), .val (.int x1), .val (.int x2), .unset] [] := by first | (simp [entryFrame, mkF, argsToLocals, Value.category]; done) | rfl
theorem d3_0 : decode method_4_code 0 = .ok (.iload_n 0, 1) := by decide +kernel
theorem d3_1 : decode method_4_code 1 = .ok (.iconst 3, 1) := by decide +kernel
theorem d3_2 : decode method_4_code 2 = .ok (.if_icmp .lt 7, 3) := by decide +kernel
theorem d3_9 : decode method_4_code 9 = .ok (.ldc 37, 2) := by decide +kernel
theorem wd20 {Z : State} {a0 : Array Value} (hw : ∀ d ∈ tables_1, d.before a0 Z = true) : ((Jvm.Cond.stringLink "com/example/object_access_rules/objectaccessrules/ResultEqualsPinLaw" (37 : Nat) "") : Jvm.Cond).before a0 Z = true := hw _ (List.mem_of_getElem? (i := 20) rfl)
theorem d3_11 : decode method_4_code 11 = .ok (.areturn, 1) := by decide +kernel
theorem d3_5 : decode method_4_code 5 = .ok (.iload_n 2, 1) := by decide +kernel
theorem d3_6 : decode method_4_code 6 = .ok (.ifCond .eq 6, 3) := by decide +kernel
theorem d3_12 : decode method_4_code 12 = .ok (.iconst 2, 1) := by decide +kernel
theorem d3_13 : decode method_4_code 13 = .ok (.newarray .char, 2) := by decide +kernel
theorem wd72 {Z : State} {a0 : Array Value} (hw : ∀ d ∈ tables_1, d.before a0 Z = true) : ((Jvm.Cond.arrayClass Jvm.ClassFile.FieldType.char) : Jvm.Cond).before a0 Z = true := hw _ (List.mem_of_getElem? (i := 72) rfl)
theorem d3_15 : decode method_4_code 15 = .ok (.astore_n 3, 1) := by decide +kernel
theorem d3_16 : decode method_4_code 16 = .ok (.aload_n 3, 1) := by decide +kernel
theorem d3_17 : decode method_4_code 17 = .ok (.iconst 0, 1) := by decide +kernel
theorem d3_18 : decode method_4_code 18 = .ok (.iload_n 1, 1) := by decide +kernel
theorem d3_19 : decode method_4_code 19 = .ok (.sipush 255, 3) := by decide +kernel
theorem d3_22 : decode method_4_code 22 = .ok (.iand, 1) := by decide +kernel
theorem d3_23 : decode method_4_code 23 = .ok (.i2c, 1) := by decide +kernel
theorem d3_24 : decode method_4_code 24 = .ok (.castore, 1) := by decide +kernel
theorem d3_25 : decode method_4_code 25 = .ok (.aload_n 3, 1) := by decide +kernel
theorem d3_26 : decode method_4_code 26 = .ok (.iconst 1, 1) := by decide +kernel
theorem d3_27 : decode method_4_code 27 = .ok (.iload_n 1, 1) := by decide +kernel
theorem d3_28 : decode method_4_code 28 = .ok (.bipush 8, 2) := by decide +kernel
theorem d3_30 : decode method_4_code 30 = .ok (.iushr, 1) := by decide +kernel
theorem d3_31 : decode method_4_code 31 = .ok (.sipush 255, 3) := by decide +kernel
theorem d3_34 : decode method_4_code 34 = .ok (.iand, 1) := by decide +kernel
theorem d3_35 : decode method_4_code 35 = .ok (.i2c, 1) := by decide +kernel
theorem d3_36 : decode method_4_code 36 = .ok (.castore, 1) := by decide +kernel
theorem d3_37 : decode method_4_code 37 = .ok (.new 39, 3) := by decide +kernel
theorem wd73 {Z : State} {a0 : Array Value} (hw : ∀ d ∈ tables_1, d.before a0 Z = true) : ((Jvm.Cond.classLink "com/example/object_access_rules/objectaccessrules/ResultEqualsPinLaw" (39 : Nat) "java/lang/String") : Jvm.Cond).before a0 Z = true := hw _ (List.mem_of_getElem? (i := 73) rfl)
theorem d3_40 : decode method_4_code 40 = .ok (.dup, 1) := by decide +kernel
theorem d3_41 : decode method_4_code 41 = .ok (.aload_n 3, 1) := by decide +kernel
theorem d3_42 : decode method_4_code 42 = .ok (.invokespecial 41, 3) := by decide +kernel
theorem wd74 {Z : State} {a0 : Array Value} (hw : ∀ d ∈ tables_1, d.before a0 Z = true) : ((Jvm.Cond.methodLink "com/example/object_access_rules/objectaccessrules/ResultEqualsPinLaw" (41 : Nat) ({ cls := "java/lang/String", name := "<init>", desc := "([C)V" } : Jvm.MethodName)) : Jvm.Cond).before a0 Z = true := hw _ (List.mem_of_getElem? (i := 74) rfl)
theorem own_mw {Z : State} {a0 : Array Value} (hw : ∀ d ∈ tables_1, d.before a0 Z = true) : ∀ d ∈ StrChars.Road.words, d.before a0 Z = true := fun d hd => hw d ((by decide +kernel : ∀ d ∈ StrChars.Road.words, d ∈ tables_1) d hd)
theorem wd76 {Z : State} {a0 : Array Value} (hw : ∀ d ∈ tables_1, d.before a0 Z = true) : ((Jvm.Cond.code ({ cls := "java/lang/String", name := "<init>", desc := "([C)V" } : Jvm.MethodName) jdk_42_method_3_code (2 : Nat) (Option.none : Option Jvm.ClassFile.FieldType)) : Jvm.Cond).before a0 Z = true := hw _ (List.mem_of_getElem? (i := 76) rfl)
theorem pd___C_V_325 : parseMethodDescriptor "([C)V" = some ⟨[(.array .char)], none⟩ := by decide +kernel
abbrev mt11 : MethodName := (⟨"java/lang/String", "<init>", "([C)V"⟩ : MethodName)
theorem wd75 {Z : State} {a0 : Array Value} (hw : ∀ d ∈ tables_1, d.before a0 Z = true) : ((Jvm.Cond.instanceMethod ({ cls := "java/lang/String", name := "<init>", desc := "([C)V" } : Jvm.MethodName)) : Jvm.Cond).before a0 Z = true := hw _ (List.mem_of_getElem? (i := 75) rfl)
theorem d3_45 : decode method_4_code 45 = .ok (.areturn, 1) := by decide +kernel
abbrev mt12 : MethodName := (⟨"com/example/object_access_rules/objectaccessrules/Result", "through", "(Ljava/lang/String;)Lcom/example/object_access_rules/objectaccessrules/Result;"⟩ : MethodName)
theorem ef_own_through (m : MethodId) (x0 : Addr) (x1 : Addr) : entryFrame m #[(.ref x0), (.ref x1)] 2 = mkF m 0 #[.val (.ref x0), .val (.ref x1)] [] := by first | (simp [entryFrame, mkF, argsToLocals, Value.category]; done) | rfl
theorem d19_0 : decode prog_37_method_13_code 0 = .ok (.aload_n 0, 1) := by decide +kernel
theorem d19_1 : decode prog_37_method_13_code 1 = .ok (.getfield 27, 3) := by decide +kernel
theorem d19_4 : decode prog_37_method_13_code 4 = .ok (.getstatic 135, 3) := by decide +kernel
theorem wd121 {Z : State} {a0 : Array Value} (hw : ∀ d ∈ tables_1, d.before a0 Z = true) : ((Jvm.Cond.fieldLink "com/example/object_access_rules/objectaccessrules/Result" (135 : Nat) "com/example/object_access_rules/objectaccessrules/Decision" "NOT_APPLICABLE" "Lcom/example/object_access_rules/objectaccessrules/Decision;") : Jvm.Cond).before a0 Z = true := hw _ (List.mem_of_getElem? (i := 121) rfl)
theorem d19_7 : decode prog_37_method_13_code 7 = .ok (.if_acmp .ne 7, 3) := by decide +kernel
theorem d19_10 : decode prog_37_method_13_code 10 = .ok (.aload_n 0, 1) := by decide +kernel
theorem d19_11 : decode prog_37_method_13_code 11 = .ok (.goto 24, 3) := by decide +kernel
theorem d19_35 : decode prog_37_method_13_code 35 = .ok (.areturn, 1) := by decide +kernel
theorem d19_14 : decode prog_37_method_13_code 14 = .ok (.new 2, 3) := by decide +kernel
theorem wd98 {Z : State} {a0 : Array Value} (hw : ∀ d ∈ tables_1, d.before a0 Z = true) : ((Jvm.Cond.classLink "com/example/object_access_rules/objectaccessrules/Result" (2 : Nat) "com/example/object_access_rules/objectaccessrules/Result") : Jvm.Cond).before a0 Z = true := hw _ (List.mem_of_getElem? (i := 98) rfl)
theorem d19_17 : decode prog_37_method_13_code 17 = .ok (.dup, 1) := by decide +kernel
theorem d19_18 : decode prog_37_method_13_code 18 = .ok (.aload_n 0, 1) := by decide +kernel
theorem d19_19 : decode prog_37_method_13_code 19 = .ok (.getfield 27, 3) := by decide +kernel
theorem d19_22 : decode prog_37_method_13_code 22 = .ok (.aload_n 0, 1) := by decide +kernel
theorem d19_23 : decode prog_37_method_13_code 23 = .ok (.getfield 34, 3) := by decide +kernel
theorem d19_26 : decode prog_37_method_13_code 26 = .ok (.aload_n 0, 1) := by decide +kernel
theorem d19_27 : decode prog_37_method_13_code 27 = .ok (.getfield 41, 3) := by decide +kernel
theorem d19_30 : decode prog_37_method_13_code 30 = .ok (.aload_n 1, 1) := by decide +kernel
theorem d19_31 : decode prog_37_method_13_code 31 = .ok (.aload_n 0, 1) := by decide +kernel
theorem d19_32 : decode prog_37_method_13_code 32 = .ok (.invokespecial 1, 3) := by decide +kernel
abbrev mt13 : MethodName := (⟨"com/example/object_access_rules/objectaccessrules/Result", "equals", "(Ljava/lang/Object;)Z"⟩ : MethodName)
theorem ef_own_eqR (m : MethodId) (x0 : Addr) (x1 : Addr) : entryFrame m #[(.ref x0), (.ref x1)] 3 = mkF m 0 #[.val (.ref x0), .val (.ref x1), .unset] [] := by first | (simp [entryFrame, mkF, argsToLocals, Value.category]; done) | rfl
theorem d14_0 : decode prog_37_method_16_code 0 = .ok (.aload_n 1, 1) := by decide +kernel
theorem d14_1 : decode prog_37_method_16_code 1 = .ok (.instanceof 2, 3) := by decide +kernel
theorem d14_4 : decode prog_37_method_16_code 4 = .ok (.ifCond .eq 34, 3) := by decide +kernel
theorem d14_7 : decode prog_37_method_16_code 7 = .ok (.aload_n 1, 1) := by decide +kernel
theorem d14_8 : decode prog_37_method_16_code 8 = .ok (.checkcast 2, 3) := by decide +kernel
theorem d14_11 : decode prog_37_method_16_code 11 = .ok (.astore_n 2, 1) := by decide +kernel
theorem d14_12 : decode prog_37_method_16_code 12 = .ok (.aload_n 0, 1) := by decide +kernel
theorem d14_13 : decode prog_37_method_16_code 13 = .ok (.getfield 27, 3) := by decide +kernel
theorem d14_16 : decode prog_37_method_16_code 16 = .ok (.aload_n 2, 1) := by decide +kernel
theorem d14_17 : decode prog_37_method_16_code 17 = .ok (.getfield 27, 3) := by decide +kernel
theorem d14_20 : decode prog_37_method_16_code 20 = .ok (.if_acmp .ne 18, 3) := by decide +kernel
theorem d14_23 : decode prog_37_method_16_code 23 = .ok (.aload_n 0, 1) := by decide +kernel
theorem d14_24 : decode prog_37_method_16_code 24 = .ok (.getfield 34, 3) := by decide +kernel
theorem d14_27 : decode prog_37_method_16_code 27 = .ok (.aload_n 2, 1) := by decide +kernel
theorem d14_28 : decode prog_37_method_16_code 28 = .ok (.getfield 34, 3) := by decide +kernel
theorem d14_31 : decode prog_37_method_16_code 31 = .ok (.if_acmp .ne 7, 3) := by decide +kernel
theorem d14_34 : decode prog_37_method_16_code 34 = .ok (.iconst 1, 1) := by decide +kernel
theorem d14_35 : decode prog_37_method_16_code 35 = .ok (.goto 4, 3) := by decide +kernel
theorem d14_39 : decode prog_37_method_16_code 39 = .ok (.ireturn, 1) := by decide +kernel
theorem d14_38 : decode prog_37_method_16_code 38 = .ok (.iconst 0, 1) := by decide +kernel
theorem ef_own_eqN (m : MethodId) (x0 : Addr) : entryFrame m #[(.ref x0), .null] 3 = mkF m 0 #[.val (.ref x0), .val .null, .unset] [] := by first | (simp [entryFrame, mkF, argsToLocals, Value.category]; done) | rfl
theorem ef_own_eqS (m : MethodId) (x0 : Addr) (x1 : Addr) : entryFrame m #[(.ref x0), (.ref x1)] 3 = mkF m 0 #[.val (.ref x0), .val (.ref x1), .unset] [] := by first | (simp [entryFrame, mkF, argsToLocals, Value.category]; done) | rfl
theorem ef_own_law (m : MethodId) (x0 : Int32) (x1 : Int32) (x2 : Int32) (x3 : Int32) (x4 : Int32) : entryFrame m #[(.int x0), (.int x1), (.int x2), (.int x3), (.int x4)] maxLocals = mkF m 0 #[.val (.int x0), .val (.int x1), .val (.int x2), .val (.int x3), .val (.int x4), .unset, .unset, .unset, .unset, .unset, .unset] [] := by first | (simp [entryFrame, mkF, argsToLocals, Value.category, maxLocals]; done) | rfl
theorem wd0 {Z : State} {a0 : Array Value} (hw : ∀ d ∈ tables_1, d.before a0 Z = true) : ((Jvm.Cond.constant "com/example/object_access_rules/objectaccessrules/ResultEqualsPinLaw" (44 : Nat) (2147483647 : Int32)) : Jvm.Cond).before a0 Z = true := hw _ (List.mem_of_getElem? (i := 0) rfl)
theorem wd1 {Z : State} {a0 : Array Value} (hw : ∀ d ∈ tables_1, d.before a0 Z = true) : ((Jvm.Cond.classLink "com/example/object_access_rules/objectaccessrules/ResultEqualsPinLaw" (45 : Nat) "com/example/object_access_rules/objectaccessrules/Result") : Jvm.Cond).before a0 Z = true := hw _ (List.mem_of_getElem? (i := 1) rfl)
theorem wd4 {Z : State} {a0 : Array Value} (hw : ∀ d ∈ tables_1, d.before a0 Z = true) : ((Jvm.Cond.methodLink "com/example/object_access_rules/objectaccessrules/ResultEqualsPinLaw" (47 : Nat) ({ cls := "com/example/object_access_rules/objectaccessrules/ResultEqualsPinLaw", name := "dec", desc := "(I)Lcom/example/object_access_rules/objectaccessrules/Decision;" } : Jvm.MethodName)) : Jvm.Cond).before a0 Z = true := hw _ (List.mem_of_getElem? (i := 4) rfl)
theorem wd7 {Z : State} {a0 : Array Value} (hw : ∀ d ∈ tables_1, d.before a0 Z = true) : ((Jvm.Cond.code ({ cls := "com/example/object_access_rules/objectaccessrules/ResultEqualsPinLaw", name := "dec", desc := "(I)Lcom/example/object_access_rules/objectaccessrules/Decision;" } : Jvm.MethodName) method_2_code (1 : Nat) (Option.some (Jvm.ClassFile.FieldType.object "com/example/object_access_rules/objectaccessrules/Decision"))) : Jvm.Cond).before a0 Z = true := hw _ (List.mem_of_getElem? (i := 7) rfl)
theorem wd6 {Z : State} {a0 : Array Value} (hw : ∀ d ∈ tables_1, d.before a0 Z = true) : ((Jvm.Cond.initialized "com/example/object_access_rules/objectaccessrules/ResultEqualsPinLaw") : Jvm.Cond).before a0 Z = true := hw _ (List.mem_of_getElem? (i := 6) rfl)
theorem pd__I_Lcom_example_object_access_rules_objectaccessrules_Decision__6172 : parseMethodDescriptor "(I)Lcom/example/object_access_rules/objectaccessrules/Decision;" = some ⟨[.int], some (.object "com/example/object_access_rules/objectaccessrules/Decision")⟩ := by decide +kernel
theorem wd5 {Z : State} {a0 : Array Value} (hw : ∀ d ∈ tables_1, d.before a0 Z = true) : ((Jvm.Cond.static ({ cls := "com/example/object_access_rules/objectaccessrules/ResultEqualsPinLaw", name := "dec", desc := "(I)Lcom/example/object_access_rules/objectaccessrules/Decision;" } : Jvm.MethodName)) : Jvm.Cond).before a0 Z = true := hw _ (List.mem_of_getElem? (i := 5) rfl)
theorem wd11 {Z : State} {a0 : Array Value} (hw : ∀ d ∈ tables_1, d.before a0 Z = true) : ((Jvm.Cond.methodLink "com/example/object_access_rules/objectaccessrules/ResultEqualsPinLaw" (53 : Nat) ({ cls := "com/example/object_access_rules/objectaccessrules/ResultEqualsPinLaw", name := "st", desc := "(I)Lcom/example/object_access_rules/objectaccessrules/StatusCode;" } : Jvm.MethodName)) : Jvm.Cond).before a0 Z = true := hw _ (List.mem_of_getElem? (i := 11) rfl)
theorem wd13 {Z : State} {a0 : Array Value} (hw : ∀ d ∈ tables_1, d.before a0 Z = true) : ((Jvm.Cond.code ({ cls := "com/example/object_access_rules/objectaccessrules/ResultEqualsPinLaw", name := "st", desc := "(I)Lcom/example/object_access_rules/objectaccessrules/StatusCode;" } : Jvm.MethodName) method_3_code (1 : Nat) (Option.some (Jvm.ClassFile.FieldType.object "com/example/object_access_rules/objectaccessrules/StatusCode"))) : Jvm.Cond).before a0 Z = true := hw _ (List.mem_of_getElem? (i := 13) rfl)
theorem pd__I_Lcom_example_object_access_rules_objectaccessrules_StatusCode__6381 : parseMethodDescriptor "(I)Lcom/example/object_access_rules/objectaccessrules/StatusCode;" = some ⟨[.int], some (.object "com/example/object_access_rules/objectaccessrules/StatusCode")⟩ := by decide +kernel
theorem wd12 {Z : State} {a0 : Array Value} (hw : ∀ d ∈ tables_1, d.before a0 Z = true) : ((Jvm.Cond.static ({ cls := "com/example/object_access_rules/objectaccessrules/ResultEqualsPinLaw", name := "st", desc := "(I)Lcom/example/object_access_rules/objectaccessrules/StatusCode;" } : Jvm.MethodName)) : Jvm.Cond).before a0 Z = true := hw _ (List.mem_of_getElem? (i := 12) rfl)
theorem wd17 {Z : State} {a0 : Array Value} (hw : ∀ d ∈ tables_1, d.before a0 Z = true) : ((Jvm.Cond.methodLink "com/example/object_access_rules/objectaccessrules/ResultEqualsPinLaw" (57 : Nat) ({ cls := "com/example/object_access_rules/objectaccessrules/ResultEqualsPinLaw", name := "msg", desc := "(IIZ)Ljava/lang/String;" } : Jvm.MethodName)) : Jvm.Cond).before a0 Z = true := hw _ (List.mem_of_getElem? (i := 17) rfl)
theorem wd19 {Z : State} {a0 : Array Value} (hw : ∀ d ∈ tables_1, d.before a0 Z = true) : ((Jvm.Cond.code ({ cls := "com/example/object_access_rules/objectaccessrules/ResultEqualsPinLaw", name := "msg", desc := "(IIZ)Ljava/lang/String;" } : Jvm.MethodName) method_4_code (4 : Nat) (Option.some (Jvm.ClassFile.FieldType.object "java/lang/String"))) : Jvm.Cond).before a0 Z = true := hw _ (List.mem_of_getElem? (i := 19) rfl)
theorem pd__IIZ_Ljava_lang_String__2013 : parseMethodDescriptor "(IIZ)Ljava/lang/String;" = some ⟨[.int, .int, .boolean], some (.object "java/lang/String")⟩ := by decide +kernel
theorem wd18 {Z : State} {a0 : Array Value} (hw : ∀ d ∈ tables_1, d.before a0 Z = true) : ((Jvm.Cond.static ({ cls := "com/example/object_access_rules/objectaccessrules/ResultEqualsPinLaw", name := "msg", desc := "(IIZ)Ljava/lang/String;" } : Jvm.MethodName)) : Jvm.Cond).before a0 Z = true := hw _ (List.mem_of_getElem? (i := 18) rfl)
theorem wd28 {Z : State} {a0 : Array Value} (hw : ∀ d ∈ tables_1, d.before a0 Z = true) : ((Jvm.Cond.methodLink "com/example/object_access_rules/objectaccessrules/ResultEqualsPinLaw" (61 : Nat) ({ cls := "com/example/object_access_rules/objectaccessrules/Result", name := "<init>", desc := "(Lcom/example/object_access_rules/objectaccessrules/Decision;Lcom/example/object_access_rules/objectaccessrules/StatusCode;Ljava/lang/String;)V" } : Jvm.MethodName)) : Jvm.Cond).before a0 Z = true := hw _ (List.mem_of_getElem? (i := 28) rfl)
theorem wd30 {Z : State} {a0 : Array Value} (hw : ∀ d ∈ tables_1, d.before a0 Z = true) : ((Jvm.Cond.code ({ cls := "com/example/object_access_rules/objectaccessrules/Result", name := "<init>", desc := "(Lcom/example/object_access_rules/objectaccessrules/Decision;Lcom/example/object_access_rules/objectaccessrules/StatusCode;Ljava/lang/String;)V" } : Jvm.MethodName) prog_37_method_1_code (4 : Nat) (Option.none : Option Jvm.ClassFile.FieldType)) : Jvm.Cond).before a0 Z = true := hw _ (List.mem_of_getElem? (i := 30) rfl)
theorem pd__Lcom_example_object_access_rules_objectaccessrules_Decision_Lcom_example_object_access_rules_objectaccessrules_StatusCode_Ljava_lang_String__V_4135 : parseMethodDescriptor "(Lcom/example/object_access_rules/objectaccessrules/Decision;Lcom/example/object_access_rules/objectaccessrules/StatusCode;Ljava/lang/String;)V" = some ⟨[(.object "com/example/object_access_rules/objectaccessrules/Decision"), (.object "com/example/object_access_rules/objectaccessrules/StatusCode"), (.object "java/lang/String")], none⟩ := by decide +kernel
theorem wd29 {Z : State} {a0 : Array Value} (hw : ∀ d ∈ tables_1, d.before a0 Z = true) : ((Jvm.Cond.instanceMethod ({ cls := "com/example/object_access_rules/objectaccessrules/Result", name := "<init>", desc := "(Lcom/example/object_access_rules/objectaccessrules/Decision;Lcom/example/object_access_rules/objectaccessrules/StatusCode;Ljava/lang/String;)V" } : Jvm.MethodName)) : Jvm.Cond).before a0 Z = true := hw _ (List.mem_of_getElem? (i := 29) rfl)
theorem wd93 {Z : State} {a0 : Array Value} (hw : ∀ d ∈ tables_1, d.before a0 Z = true) : ((Jvm.Cond.methodLink "com/example/object_access_rules/objectaccessrules/ResultEqualsPinLaw" (72 : Nat) ({ cls := "com/example/object_access_rules/objectaccessrules/Result", name := "equals", desc := "(Ljava/lang/Object;)Z" } : Jvm.MethodName)) : Jvm.Cond).before a0 Z = true := hw _ (List.mem_of_getElem? (i := 93) rfl)
theorem wd97 {Z : State} {a0 : Array Value} (hw : ∀ d ∈ tables_1, d.before a0 Z = true) : ((Jvm.Cond.code ({ cls := "com/example/object_access_rules/objectaccessrules/Result", name := "equals", desc := "(Ljava/lang/Object;)Z" } : Jvm.MethodName) prog_37_method_16_code (3 : Nat) (Option.some Jvm.ClassFile.FieldType.boolean)) : Jvm.Cond).before a0 Z = true := hw _ (List.mem_of_getElem? (i := 97) rfl)
theorem pd__Ljava_lang_Object__Z_1835 : parseMethodDescriptor "(Ljava/lang/Object;)Z" = some ⟨[(.object "java/lang/Object")], some .boolean⟩ := by decide +kernel
theorem wd96 {Z : State} {a0 : Array Value} (hw : ∀ d ∈ tables_1, d.before a0 Z = true) : ((Jvm.Cond.selects "com/example/object_access_rules/objectaccessrules/Result" ({ cls := "com/example/object_access_rules/objectaccessrules/Result", name := "equals", desc := "(Ljava/lang/Object;)Z" } : Jvm.MethodName) ({ cls := "com/example/object_access_rules/objectaccessrules/Result", name := "equals", desc := "(Ljava/lang/Object;)Z" } : Jvm.MethodName)) : Jvm.Cond).before a0 Z = true := hw _ (List.mem_of_getElem? (i := 96) rfl)
theorem wd94 {Z : State} {a0 : Array Value} (hw : ∀ d ∈ tables_1, d.before a0 Z = true) : ((Jvm.Cond.declares ({ cls := "com/example/object_access_rules/objectaccessrules/Result", name := "equals", desc := "(Ljava/lang/Object;)Z" } : Jvm.MethodName)) : Jvm.Cond).before a0 Z = true := hw _ (List.mem_of_getElem? (i := 94) rfl)
theorem wd95 {Z : State} {a0 : Array Value} (hw : ∀ d ∈ tables_1, d.before a0 Z = true) : ((Jvm.Cond.instanceMethod ({ cls := "com/example/object_access_rules/objectaccessrules/Result", name := "equals", desc := "(Ljava/lang/Object;)Z" } : Jvm.MethodName)) : Jvm.Cond).before a0 Z = true := hw _ (List.mem_of_getElem? (i := 95) rfl)
theorem wd102 {Z : State} {a0 : Array Value} (hw : ∀ d ∈ tables_1, d.before a0 Z = true) : ((Jvm.Cond.methodLink "com/example/object_access_rules/objectaccessrules/ResultEqualsPinLaw" (64 : Nat) ({ cls := "java/lang/String", name := "valueOf", desc := "(C)Ljava/lang/String;" } : Jvm.MethodName)) : Jvm.Cond).before a0 Z = true := hw _ (List.mem_of_getElem? (i := 102) rfl)
theorem wd104 {Z : State} {a0 : Array Value} (hw : ∀ d ∈ tables_1, d.before a0 Z = true) : ((Jvm.Cond.code ({ cls := "java/lang/String", name := "valueOf", desc := "(C)Ljava/lang/String;" } : Jvm.MethodName) jdk_42_method_139_code (1 : Nat) (Option.some (Jvm.ClassFile.FieldType.object "java/lang/String"))) : Jvm.Cond).before a0 Z = true := hw _ (List.mem_of_getElem? (i := 104) rfl)
theorem pd__C_Ljava_lang_String__1844 : parseMethodDescriptor "(C)Ljava/lang/String;" = some ⟨[.char], some (.object "java/lang/String")⟩ := by decide +kernel
theorem wd103 {Z : State} {a0 : Array Value} (hw : ∀ d ∈ tables_1, d.before a0 Z = true) : ((Jvm.Cond.static ({ cls := "java/lang/String", name := "valueOf", desc := "(C)Ljava/lang/String;" } : Jvm.MethodName)) : Jvm.Cond).before a0 Z = true := hw _ (List.mem_of_getElem? (i := 103) rfl)
theorem wd116 {Z : State} {a0 : Array Value} (hw : ∀ d ∈ tables_1, d.before a0 Z = true) : ((Jvm.Cond.methodLink "com/example/object_access_rules/objectaccessrules/ResultEqualsPinLaw" (68 : Nat) ({ cls := "com/example/object_access_rules/objectaccessrules/Result", name := "through", desc := "(Ljava/lang/String;)Lcom/example/object_access_rules/objectaccessrules/Result;" } : Jvm.MethodName)) : Jvm.Cond).before a0 Z = true := hw _ (List.mem_of_getElem? (i := 116) rfl)
theorem wd120 {Z : State} {a0 : Array Value} (hw : ∀ d ∈ tables_1, d.before a0 Z = true) : ((Jvm.Cond.code ({ cls := "com/example/object_access_rules/objectaccessrules/Result", name := "through", desc := "(Ljava/lang/String;)Lcom/example/object_access_rules/objectaccessrules/Result;" } : Jvm.MethodName) prog_37_method_13_code (2 : Nat) (Option.some (Jvm.ClassFile.FieldType.object "com/example/object_access_rules/objectaccessrules/Result"))) : Jvm.Cond).before a0 Z = true := hw _ (List.mem_of_getElem? (i := 120) rfl)
theorem pd__Ljava_lang_String__Lcom_example_object_access_rules_objectaccessrules_Result__7620 : parseMethodDescriptor "(Ljava/lang/String;)Lcom/example/object_access_rules/objectaccessrules/Result;" = some ⟨[(.object "java/lang/String")], some (.object "com/example/object_access_rules/objectaccessrules/Result")⟩ := by decide +kernel
theorem wd119 {Z : State} {a0 : Array Value} (hw : ∀ d ∈ tables_1, d.before a0 Z = true) : ((Jvm.Cond.selects "com/example/object_access_rules/objectaccessrules/Result" ({ cls := "com/example/object_access_rules/objectaccessrules/Result", name := "through", desc := "(Ljava/lang/String;)Lcom/example/object_access_rules/objectaccessrules/Result;" } : Jvm.MethodName) ({ cls := "com/example/object_access_rules/objectaccessrules/Result", name := "through", desc := "(Ljava/lang/String;)Lcom/example/object_access_rules/objectaccessrules/Result;" } : Jvm.MethodName)) : Jvm.Cond).before a0 Z = true := hw _ (List.mem_of_getElem? (i := 119) rfl)
theorem wd117 {Z : State} {a0 : Array Value} (hw : ∀ d ∈ tables_1, d.before a0 Z = true) : ((Jvm.Cond.declares ({ cls := "com/example/object_access_rules/objectaccessrules/Result", name := "through", desc := "(Ljava/lang/String;)Lcom/example/object_access_rules/objectaccessrules/Result;" } : Jvm.MethodName)) : Jvm.Cond).before a0 Z = true := hw _ (List.mem_of_getElem? (i := 117) rfl)
theorem wd118 {Z : State} {a0 : Array Value} (hw : ∀ d ∈ tables_1, d.before a0 Z = true) : ((Jvm.Cond.instanceMethod ({ cls := "com/example/object_access_rules/objectaccessrules/Result", name := "through", desc := "(Ljava/lang/String;)Lcom/example/object_access_rules/objectaccessrules/Result;" } : Jvm.MethodName)) : Jvm.Cond).before a0 Z = true := hw _ (List.mem_of_getElem? (i := 118) rfl)
theorem wd9 {Z : State} {a0 : Array Value} (hw : ∀ d ∈ tables_1, d.before a0 Z = true) : ((Jvm.Cond.initialized "com/example/object_access_rules/objectaccessrules/Decision") : Jvm.Cond).before a0 Z = true := hw _ (List.mem_of_getElem? (i := 9) rfl)
theorem wd10 {Z : State} {a0 : Array Value} (hw : ∀ d ∈ tables_1, d.before a0 Z = true) : ((Jvm.Cond.laysStatic "com/example/object_access_rules/objectaccessrules/Decision" "PERMIT" "Lcom/example/object_access_rules/objectaccessrules/Decision;") : Jvm.Cond).before a0 Z = true := hw _ (List.mem_of_getElem? (i := 10) rfl)
theorem wd15 {Z : State} {a0 : Array Value} (hw : ∀ d ∈ tables_1, d.before a0 Z = true) : ((Jvm.Cond.initialized "com/example/object_access_rules/objectaccessrules/StatusCode") : Jvm.Cond).before a0 Z = true := hw _ (List.mem_of_getElem? (i := 15) rfl)
theorem wd16 {Z : State} {a0 : Array Value} (hw : ∀ d ∈ tables_1, d.before a0 Z = true) : ((Jvm.Cond.laysStatic "com/example/object_access_rules/objectaccessrules/StatusCode" "OK" "Lcom/example/object_access_rules/objectaccessrules/StatusCode;") : Jvm.Cond).before a0 Z = true := hw _ (List.mem_of_getElem? (i := 16) rfl)
theorem wd57 {Z : State} {a0 : Array Value} (hw : ∀ d ∈ tables_1, d.before a0 Z = true) : ((Jvm.Cond.laysStatic "com/example/object_access_rules/objectaccessrules/Decision" "INDETERMINATE" "Lcom/example/object_access_rules/objectaccessrules/Decision;") : Jvm.Cond).before a0 Z = true := hw _ (List.mem_of_getElem? (i := 57) rfl)
theorem wd71 {Z : State} {a0 : Array Value} (hw : ∀ d ∈ tables_1, d.before a0 Z = true) : ((Jvm.Cond.laysStatic "com/example/object_access_rules/objectaccessrules/StatusCode" "MISSING_ATTRIBUTE" "Lcom/example/object_access_rules/objectaccessrules/StatusCode;") : Jvm.Cond).before a0 Z = true := hw _ (List.mem_of_getElem? (i := 71) rfl)
theorem wd101 {Z : State} {a0 : Array Value} (hw : ∀ d ∈ tables_1, d.before a0 Z = true) : ((Jvm.Cond.laysStatic "com/example/object_access_rules/objectaccessrules/StatusCode" "PROCESSING_ERROR" "Lcom/example/object_access_rules/objectaccessrules/StatusCode;") : Jvm.Cond).before a0 Z = true := hw _ (List.mem_of_getElem? (i := 101) rfl)
theorem wd122 {Z : State} {a0 : Array Value} (hw : ∀ d ∈ tables_1, d.before a0 Z = true) : ((Jvm.Cond.laysStatic "com/example/object_access_rules/objectaccessrules/Decision" "NOT_APPLICABLE" "Lcom/example/object_access_rules/objectaccessrules/Decision;") : Jvm.Cond).before a0 Z = true := hw _ (List.mem_of_getElem? (i := 122) rfl)
theorem wd125 {Z : State} {a0 : Array Value} (hw : ∀ d ∈ tables_1, d.before a0 Z = true) : ((Jvm.Cond.laysStatic "com/example/object_access_rules/objectaccessrules/Decision" "DENY" "Lcom/example/object_access_rules/objectaccessrules/Decision;") : Jvm.Cond).before a0 Z = true := hw _ (List.mem_of_getElem? (i := 125) rfl)
theorem wd129 {Z : State} {a0 : Array Value} (hw : ∀ d ∈ tables_1, d.before a0 Z = true) : ((Jvm.Cond.laysStatic "com/example/object_access_rules/objectaccessrules/StatusCode" "SYNTAX_ERROR" "Lcom/example/object_access_rules/objectaccessrules/StatusCode;") : Jvm.Cond).before a0 Z = true := hw _ (List.mem_of_getElem? (i := 129) rfl)
theorem wd126 {Z : State} {a0 : Array Value} (hw : ∀ d ∈ tables_1, d.before a0 Z = true) : ((Jvm.Cond.superclass "java/lang/String" "java/lang/Object") : Jvm.Cond).before a0 Z = true := hw _ (List.mem_of_getElem? (i := 126) rfl)
theorem wd127 {Z : State} {a0 : Array Value} (hw : ∀ d ∈ tables_1, d.before a0 Z = true) : ((Jvm.Cond.noSuperclass "java/lang/Object") : Jvm.Cond).before a0 Z = true := hw _ (List.mem_of_getElem? (i := 127) rfl)
abbrev own_EL : List (String × Nat) := [("com/example/object_access_rules/objectaccessrules/Result", 17), ("com/example/object_access_rules/objectaccessrules/Result", 30), ("com/example/object_access_rules/objectaccessrules/Result", 37), ("com/example/object_access_rules/objectaccessrules/ResultEqualsPinLaw", 37)]
theorem own_EW {Z : State} {a0 : Array Value} (hw : ∀ d ∈ tables_1, d.before a0 Z = true) : EW Z a0 own_EL := (EW.cons (wd37 hw) (by decide) (EW.cons (wd46 hw) (by decide) (EW.cons (wd51 hw) (by decide) (EW.cons (wd20 hw) (by decide) EW.nil))))
theorem own_wS {Z : State} {a0 : Array Value} (hw : ∀ d ∈ tables_1, d.before a0 Z = true) : ∀ a ∈ Bundle.stringAtoms, a.before a0 Z = true := fun d hd => hw d ((by decide +kernel : ∀ d ∈ Bundle.stringAtoms, d ∈ tables_1) d hd)
theorem own_safeNull {Z : State} {EL : List (String × Nat)} {vm : Vm} {h : Heap} {a : Addr} (hal : Z.vm.Alike vm) (E : Exa Z h a "java/lang/String") (F : Fld Z h a "java/lang/String" "value" "[B" .null) : Safe Z EL vm h a := fun B => by
  obtain ⟨p, -, u, a', -, q, -, G, rfl | rfl⟩ := B
  · obtain ⟨cell, cf, k, i, f, h1, h2, -, -, -, -, h7⟩ := F
    cases (show h[q.sa]? = some q.sC from G.ha).symm.trans h1
    obtain ⟨cS, ⟨⟨-, -, -, ⟨c1, k1, i1, g1, -⟩, -, -, -, g2, -⟩, -⟩, -⟩ := G
    obtain ⟨k', g3⟩ := ff_back (U := Wst Z vm h) hal g1
    cases g3.symm.trans h2
    rw [g2] at h7
    cases h7
  · obtain ⟨cell, k, e1, e2, -⟩ := E
    cases (show h[q.sd]? = some q.SA from G.hd).symm.trans e1
    obtain ⟨cS, -, -, f, -⟩ := G
    have f' : Z.vm.findClass "[B" = some q.SA.cls := by rw [← hal.findClass]; exact f
    exact ids_ne e2 f' (by decide) rfl
section OwnW
variable {p : Program} {l : Launch} {e : Env} {R : Room} {s : State} {m : MethodId} {args : Array Value} {below : List Frame} {meth : Method} {c : Code} {T : State} {locs : List Loc} {cells slots : Nat} {Z : State} {a0 : Array Value} {h : Heap} {vm0 : Vm} {EL : List (String × Nat)}
theorem own_retW {S : State} {Q : Option Value → Vm → Heap → List Loc → Prop} {C N k0 : Nat} (X : Stand p l e R (s.setVm vm0) m args below meth c T locs cells slots) (hS : s.Since vm0 k0) (hk : k0 ≤ T.heap.size) {v : Option Value} (hv : meth.sig.returnType = none → v = none) (hlocks : meth.locks = false) (hq : Q v T.vm T.heap locs) (hR : CHr Z EL s.vm s.heap T.vm T.heap) (hc : cells ≤ C) (hs : slots ≤ N)
    (k : ∀ fs, (∀ (f : JFrame) (acts : List Action), f.method = m → f.locked = none → f.entered = [] → (doReturn e (T.setTop f) acts v).1 = T.setFrames fs) → Steps p.tables e below S (T.setFrames fs)) :
    own_Done p e below (fun o U' => ∃ v L, o = .returned v ∧ Q v U'.vm U'.heap L ∧ CHr Z EL s.vm s.heap U'.vm U'.heap ∧ ReturnedEndW s o U' L C N) S := by
  obtain ⟨fs, hr, hrun, hended, h1, h2, h3, h4⟩ := X.leaveW hS hk hv hlocks
  exact ⟨_, _, k fs hr, hrun, hended, v, locs, rfl, hq, hR, h1, h2, h3, h4.mono hc hs⟩
theorem own_backW {y : MethodName} {bytes : ByteArray} {maxL : Nat} {ret : Option FieldType} {rm : Room} {len W : Nat} {as' : Array Value} {SL : List Addr} {Q : Option Value → Vm → Heap → List Loc → Prop}
    (hM : MetFree l y (head1 [Cond.code y bytes maxL ret] rm) (fun a U => a = as' ∧ Z.Warmed39 U.vm ∧ U.heap = h ∧ CHv Z EL U.vm h ∧ ∀ x ∈ SL, Safe Z EL U.vm h x) (fun _ _ _ _ _ => True) (fun _ U o U' => ∃ v L, o = .returned v ∧ Q v U'.vm U'.heap L ∧ CHr Z EL U.vm U.heap U'.vm U'.heap ∧ ReturnedEndW U o U' L rm.cells rm.slots))
    (hZ : Z.Warmed39 vm0) (wc : (Cond.code y bytes maxL ret).before a0 Z = true) (wz : (Cond.initialized y.cls).before a0 Z = true) (hf : rm.frames + 1 ≤ R.frames) (hl : W + (maxL + 11) + rm.locals ≤ R.locals) (hEL : EW Z a0 EL) (H : CHv Z EL vm0 h) (hSL : ∀ x ∈ SL, x < h.size ∧ Safe Z EL vm0 h x) :
    BackS l R p e below (s.setVm vm0) args y len W (fun A a => a = as' ∧ A.U.heap = h ∧ A.cells + rm.cells ≤ R.cells ∧ A.slots + rm.slots ≤ R.slots)
      (fun A _ v B => ∃ L, (Q v B.U.vm B.U.heap L ∧ CHr Z EL vm0 h B.U.vm B.U.heap) ∧ B.locs = A.locs ++ L ∧ B.cells = A.cells + rm.cells ∧ B.slots = A.slots + rm.slots) :=
  BackS.of_freeW (bytes := bytes) (maxL := maxL) (ret := ret) (E := fun _ first o t L k n => k = rm.cells ∧ n = rm.slots ∧ (∃ v, o = .returned v ∧ Q v t.vm t.heap L) ∧ CHr Z EL first.vm first.heap t.vm t.heap) hM hf hl
    (fun m meth c A a Y hp => have hU : Z.Warmed39 A.U.vm := wtrans (s := s.setVm vm0) hZ Y.warmed
      ⟨by show (Cond.and _ .tt).before a A.U = true; rw [Cond.before_and, mv hU wc]; rfl, mv hU wc, mv hU wz, hp.2.2.1, hp.2.2.2⟩)
    (fun m meth c A a g mk Y hp => have A1 := CHv.at Y hZ hEL H
      ⟨hp.1, wtrans (s := s.setVm vm0) hZ Y.warmed, hp.2.1, A1.1, fun x hx => A1.safe (hSL x hx).1 (hSL x hx).2⟩)
    (fun _ _ _ _ _ _ _ _ _ => trivial)
    (fun _ _ _ _ ⟨v, L, h1, h2, h3, h4⟩ => ⟨L, _, _, h4, rfl, rfl, ⟨v, h1, h2⟩, h3⟩)
    (fun m meth c A a g mk v t L k n Y hp _ _ q => by
      obtain ⟨e1, e2, ⟨v', e3, e4⟩, e5⟩ := q
      cases e3
      subst e1 e2
      have e6 : CHr Z EL A.U.vm h t.vm t.heap := by rw [← hp.2.1]; exact e5
      exact ⟨L, ⟨e4, (CHv.at Y hZ hEL H).trans e6⟩, rfl, rfl, rfl⟩)
end OwnW
theorem own_and255 (y : Int32) : ¬ (y &&& (255 : Int32)).toUInt32.toUInt16.toUInt32.toInt32 < 0 ∧ ¬ (255 : Int32) < (y &&& (255 : Int32)).toUInt32.toUInt16.toUInt32.toInt32 := by
  have t : ∀ k : Fin 256, ¬ (Int32.ofNat k.val).toUInt32.toUInt16.toUInt32.toInt32 < 0 ∧ ¬ (255 : Int32) < (Int32.ofNat k.val).toUInt32.toUInt16.toUInt32.toInt32 := by decide +kernel
  have h : (y &&& 255).toBitVec.toNat < 256 := by
    simp only [Int32.toBitVec_and, BitVec.toNat_and]
    exact Nat.lt_succ_of_le Nat.and_le_right
  have e : y &&& 255 = Int32.ofNat (y &&& 255).toBitVec.toNat := by
    apply Int32.toBitVec_inj.mp
    apply BitVec.eq_of_toNat_eq
    simp only [Int32.toBitVec_ofNat', BitVec.toNat_ofNat]
    omega
  rw [e]
  exact t ⟨_, h⟩
theorem own_cases256 {c : Int32} (h : ¬ c < 0 ∧ ¬ (255 : Int32) < c) : ∃ k : Fin 256, c = Int32.ofNat k.val := by
  have h1 : 0 ≤ c.toInt := by have := h.1; rw [Int32.lt_iff_toInt_lt] at this; simpa using this
  have h2 : c.toInt ≤ 255 := by have := h.2; rw [Int32.lt_iff_toInt_lt] at this; have e : (255 : Int32).toInt = 255 := rfl; omega
  refine ⟨⟨c.toInt.toNat, by omega⟩, ?_⟩
  apply Int32.toInt_inj.mp
  rw [Int32.toInt_ofNat_small (by show c.toInt.toNat < 2 ^ 31; omega)]
  show c.toInt = (c.toInt.toNat : Int)
  omega
theorem own_narc {c : Int32} (h : ¬ c < 0 ∧ ¬ (255 : Int32) < c) : nar .char c = c := by
  obtain ⟨k, rfl⟩ := own_cases256 h
  have t : ∀ k : Fin 256, nar .char (Int32.ofNat k.val) = Int32.ofNat k.val := by decide +kernel
  exact t k
theorem own_fitc {c : Int32} (h : ¬ c < 0 ∧ ¬ (255 : Int32) < c) : fits .char (.int c) = true := by
  have q := fits_nar_char c
  rw [own_narc h] at q
  exact q
theorem own_up (cs : List Int32) (h : ∀ c ∈ cs, ¬ c < 0 ∧ ¬ (255 : Int32) < c) : ∀ c ∈ cs, ¬ c < 0 ∧ ¬ (65535 : Int32) < c := fun c hc => ⟨(h c hc).1, fun q => (h c hc).2 (by rw [Int32.lt_iff_toInt_lt] at q ⊢; have e1 : (65535 : Int32).toInt = 65535 := rfl; have e2 : (255 : Int32).toInt = 255 := rfl; omega)⟩
theorem own_ord {args : Array Value} {s : State} {u : Term} {w : Addr} {C n d : String} {k : Int32} (ev : u.eval args s none [] s = some (.ref w)) (h : (Cond.eq (Term.field u C n d) (Term.int k)).value args s none s [] = some true) : s.fieldOf? w C n d = some (.int k) := by
  simp only [Cond.value, fld_at ev, Term.int_eval] at h
  rcases hv : s.fieldOf? w C n d with _ | v
  · rw [hv] at h; simp at h
  · rw [hv] at h
    cases v <;> simp at h
    subst h
    rfl
def own_d4 (a b c d : Addr) : Prop := ¬ (a = b) ∧ ¬ (a = c) ∧ ¬ (a = d) ∧ ¬ (b = c) ∧ ¬ (b = d) ∧ ¬ (c = d)
theorem own_r6 {p ia : Int32} (h : ia = ((p &&& (2147483647 : Int32)) % (6 : Int32))) : ia = 0 ∨ ia = 1 ∨ ia = 2 ∨ ia = 3 ∨ ia = 4 ∨ ia = 5 := by
  have e := c_mask p 2147483647 31 (by decide) (by decide)
  have h1 : 0 ≤ p.toInt % (2 ^ 31 : Nat) := Int.emod_nonneg _ (by decide)
  have f := (c_irem (p &&& 2147483647) 6 6 rfl).1 (by rw [e]; exact h1)
  have hz : ia.toInt = 0 ∨ ia.toInt = 1 ∨ ia.toInt = 2 ∨ ia.toInt = 3 ∨ ia.toInt = 4 ∨ ia.toInt = 5 := by rw [h, f]; omega
  rcases hz with hz | hz | hz | hz | hz | hz
  · exact Or.inl (Int32.toInt_inj.mp hz)
  · exact Or.inr (Or.inl (Int32.toInt_inj.mp hz))
  · exact Or.inr (Or.inr (Or.inl (Int32.toInt_inj.mp hz)))
  · exact Or.inr (Or.inr (Or.inr (Or.inl (Int32.toInt_inj.mp hz))))
  · exact Or.inr (Or.inr (Or.inr (Or.inr (Or.inl (Int32.toInt_inj.mp hz)))))
  · exact Or.inr (Or.inr (Or.inr (Or.inr (Or.inr (Int32.toInt_inj.mp hz)))))
theorem own_cons {ia zl : Int32} {d sc wP wD wN wI wO wM wG wY : Addr} (h6 : ia = 0 ∨ ia = 1 ∨ ia = 2 ∨ ia = 3 ∨ ia = 4 ∨ ia = 5) (hD : own_d4 wP wD wN wI) (hS : own_d4 wO wM wG wY)
    (h1 : d = (if ia = (0 : Int32) then wP else (if ia = (1 : Int32) then wD else (if ia = (2 : Int32) then wN else wI)))) (h2 : sc = (if ia < (3 : Int32) then wO else (if ia = (3 : Int32) then wM else (if ia = (4 : Int32) then wG else wY)))) (h3 : ia < (3 : Int32) → zl = (0 : Int32)) :
    (d = wI ∧ ¬ (sc = wO)) ∨ (¬ (d = wI) ∧ sc = wO ∧ zl = (0 : Int32)) := by
  obtain ⟨a1, a2, a3, a4, a5, a6⟩ := hD
  obtain ⟨b1, b2, b3, b4, b5, b6⟩ := hS
  subst h1 h2
  rcases h6 with rfl | rfl | rfl | rfl | rfl | rfl
  · exact Or.inr ⟨a3, rfl, h3 (by decide)⟩
  · exact Or.inr ⟨a5, rfl, h3 (by decide)⟩
  · exact Or.inr ⟨a6, rfl, h3 (by decide)⟩
  · exact Or.inl ⟨rfl, fun q => b1 q.symm⟩
  · exact Or.inl ⟨rfl, fun q => b2 q.symm⟩
  · exact Or.inl ⟨rfl, fun q => b3 q.symm⟩
theorem own_fin {ia ib zr ze : Int32} {d1 s1 d2 s2 wP wD wN wI wO wM wG wY : Addr} (ha : ia = 0 ∨ ia = 1 ∨ ia = 2 ∨ ia = 3 ∨ ia = 4 ∨ ia = 5) (hb : ib = 0 ∨ ib = 1 ∨ ib = 2 ∨ ib = 3 ∨ ib = 4 ∨ ib = 5) (hD : own_d4 wP wD wN wI) (hS : own_d4 wO wM wG wY)
    (h1 : d1 = (if ia = (0 : Int32) then wP else (if ia = (1 : Int32) then wD else (if ia = (2 : Int32) then wN else wI)))) (h2 : s1 = (if ia < (3 : Int32) then wO else (if ia = (3 : Int32) then wM else (if ia = (4 : Int32) then wG else wY))))
    (h3 : d2 = (if ib = (0 : Int32) then wP else (if ib = (1 : Int32) then wD else (if ib = (2 : Int32) then wN else wI)))) (h4 : s2 = (if ib < (3 : Int32) then wO else (if ib = (3 : Int32) then wM else (if ib = (4 : Int32) then wG else wY))))
    (hr : zr = (if d1 = d2 then (if s1 = s2 then (1 : Int32) else (0 : Int32)) else (0 : Int32))) (he : ze = (if ia = ib then (1 : Int32) else (0 : Int32))) : zr = ze := by
  obtain ⟨a1, a2, a3, a4, a5, a6⟩ := hD
  obtain ⟨b1, b2, b3, b4, b5, b6⟩ := hS
  subst h1 h2 h3 h4 hr he
  have c1 := Ne.symm a1
  have c2 := Ne.symm a2
  have c3 := Ne.symm a3
  have c4 := Ne.symm a4
  have c5 := Ne.symm a5
  have c6 := Ne.symm a6
  have e1 := Ne.symm b1
  have e2 := Ne.symm b2
  have e3 := Ne.symm b3
  have e4 := Ne.symm b4
  have e5 := Ne.symm b5
  have e6 := Ne.symm b6
  rcases ha with rfl | rfl | rfl | rfl | rfl | rfl <;> rcases hb with rfl | rfl | rfl | rfl | rfl | rfl <;> simp_all
theorem own_fin2 {ia ib zr ze : Int32} {d1 s1 d2 s2 wP wD wN wI wO wM wG wY : Addr} (ha : ia = 0 ∨ ia = 1 ∨ ia = 2 ∨ ia = 3 ∨ ia = 4 ∨ ia = 5) (hb : ib = 0 ∨ ib = 1 ∨ ib = 2 ∨ ib = 3 ∨ ib = 4 ∨ ib = 5) (hD : own_d4 wP wD wN wI) (hS : own_d4 wO wM wG wY)
    (h1 : d1 = (if ib = (0 : Int32) then wP else (if ib = (1 : Int32) then wD else (if ib = (2 : Int32) then wN else wI)))) (h2 : s1 = (if ib < (3 : Int32) then wO else (if ib = (3 : Int32) then wM else (if ib = (4 : Int32) then wG else wY))))
    (h3 : d2 = (if ia = (0 : Int32) then wP else (if ia = (1 : Int32) then wD else (if ia = (2 : Int32) then wN else wI)))) (h4 : s2 = (if ia < (3 : Int32) then wO else (if ia = (3 : Int32) then wM else (if ia = (4 : Int32) then wG else wY))))
    (hr : zr = (if d1 = d2 then (if s1 = s2 then (1 : Int32) else (0 : Int32)) else (0 : Int32))) (he : ze = (if ia = ib then (1 : Int32) else (0 : Int32))) : zr = ze :=
  own_fin hb ha hD hS h1 h2 h3 h4 hr (he.trans (by by_cases q : ia = ib; rw [if_pos q, if_pos q.symm]; rw [if_neg q, if_neg (fun z => q z.symm)]))
theorem own_notRes {Z : State} {a0 : Array Value} (hw : ∀ d ∈ tables_1, d.before a0 Z = true) : ∃ c t, Z.vm.findClass "java/lang/String" = some c ∧ Z.vm.findClass "com/example/object_access_rules/objectaccessrules/Result" = some t ∧ Z.vm.assignable c t = false := by
  obtain ⟨t, k', g0, g2, g5, g7, -, -⟩ := Cond.instantiable_spec ((wd2 hw) : (Cond.instantiable "com/example/object_access_rules/objectaccessrules/Result" 5).before a0 Z = true)
  obtain ⟨c, h0⟩ := found_sup ((wd126 hw) : (Cond.superclass "java/lang/String" "java/lang/Object").before a0 Z = true)
  obtain ⟨p, k, kp, h1, h2, h3, h4, h5, -, h7⟩ := Cond.superclass_spec h0 ((wd126 hw) : (Cond.superclass "java/lang/String" "java/lang/Object").before a0 Z = true)
  obtain ⟨o, ko, i1, i2, i3, -, -⟩ := Cond.noSuperclass_spec ((wd127 hw) : (Cond.noSuperclass "java/lang/Object").before a0 Z = true)
  cases h1.symm.trans i1
  have ne : c ≠ t := ids_ne h0 g0 (by decide)
  have ne2 : p ≠ t := ids_ne h1 g0 (by decide)
  have nf : k'.isInterface = false := by cases q : k'.isInterface with
    | false => rfl
    | true => rw [q] at g7; simp at g7
  have n1 : ∀ fuel, Z.vm.isSubclassAux fuel p t = false := fun fuel => by
    cases fuel with
    | zero => rfl
    | succ f => simp [Vm.isSubclassAux, ne2, i2, i3]
  have n3 : ∀ fuel, Z.vm.isSubclassAux fuel c t = false := fun fuel => by
    cases fuel with
    | zero => rfl
    | succ f => simp [Vm.isSubclassAux, ne, h2, h4, n1]
  refine ⟨c, t, h0, g0, ?_⟩
  show Z.vm.assignableAux (255 + 1) c t = false
  simp [Vm.assignableAux, ne, h2, g2, h5, g5, nf, Vm.isSubclass, n3]
def Q_own_rnn (Z : State) (a : Addr) (ms : Addr) (h0 : Heap) (n0 : Nat) (v : Option Value) (h : Heap) (L : List Loc) : Prop := v = some (.ref a) ∧ L = [] ∧ h = h0
set_option maxRecDepth 65536 in
set_option maxHeartbeats 40000000 in
theorem own_rnn (l : Launch) (Z : State) (a0 : Array Value) (hw : ∀ d ∈ tables_1, d.before a0 Z = true) (ws : List Jvm.Cond) (a : Addr) (ms : Addr) (h0 : Heap) (n0 : Nat) (O0 : Old Z n0 h0) :
    MetFree l mt0 (head1 (Jvm.Cond.code mt0 jdk_31_method_11_code 2 (some (.object "java/lang/Object")) :: ws) ({ frames := 0, cells := 0, slots := 0, locals := 0 } : Room)) (fun aq U => aq = #[(.ref a), (.ref ms)] ∧ Z.Warmed39 U.vm ∧ U.heap = h0) (fun _ _ _ _ _ => True) (fun _ U o U' => ∃ v L, o = .returned v ∧ Q_own_rnn Z a ms h0 n0 v U'.heap L ∧ FrameEnd U o U' L ({ frames := 0, cells := 0, slots := 0, locals := 0 } : Room).cells ({ frames := 0, cells := 0, slots := 0, locals := 0 } : Room).slots) := by
  refine MetFree.of_bodySF (plainFor_of_name pn_java_util_Objects) hisR ?_
  intro p e s m args below meth c s₁ Bd hml0 hP hK
  obtain ⟨rfl, hZ, hh⟩ := hP
  have hx := Bd.exec
  have hby := Bd.bytes
  have hml : c.maxLocals = 2 := hml0
  have hown : s.vm.findClass "java/util/Objects" = some m.cls := findClass_of_methodNamed Bd.named
  have hnm := (name_of_methodNamed Bd.named Bd.method).1
  have X0 : Stand p l e ({ frames := 0, cells := 0, slots := 0, locals := 0 } : Room) s m #[(.ref a), (.ref ms)] below meth c s₁ [] 0 0 := Stand.of_body Bd
  have e0 : s₁.heap = h0 := by rw [← hh, Bd.state]; rfl
  have N0 := Fr.nil n0
  have zO := O0.1
  have zO2 := O0.2.1
  refine own_open (own_via (S' := s₁.setTop (mkF m 0 #[.val (.ref a), .val (.ref ms)] [])) (fun t k => castTop (ef_own_rnn m a ms) k) ?_)
  refine own_via (S' := s₁.setTop (mkF m 1 #[.val (.ref a), .val (.ref ms)] [(.ref a)])) (fun t k => XS.aloadN X0.here hx rfl (hb hby d7_0) rfl rfl k) ?_
  refine own_via (S' := s₁.setTop (mkF m 13 #[.val (.ref a), .val (.ref ms)] [])) (fun t k => XS.ifnonnullYes X0.here hx rfl (pc0 := 1) (pc' := 13) rfl (hb hby d7_1) rfl (by decide) (by decide) k) ?_
  refine own_via (S' := s₁.setTop (mkF m 14 #[.val (.ref a), .val (.ref ms)] [(.ref a)])) (fun t k => XS.aloadN X0.here hx rfl (hb hby d7_13) rfl rfl k) ?_
  refine own_ret (Q := Q_own_rnn Z a ms h0 n0) (C := ({ frames := 0, cells := 0, slots := 0, locals := 0 } : Room).cells) (N := ({ frames := 0, cells := 0, slots := 0, locals := 0 } : Room).slots) X0 (v := some (.ref a)) (fun h => by rw [Bd.returns] at h; cases h) Bd.notSynchronized ?_ (by decide) (by decide) (fun fs hr => retOut X0 hx Bd.returns rfl (Or.inr (Or.inr (Or.inr (Or.inr ⟨rfl, rfl, rfl⟩)))) (hb hby d7_14) hr)
  show Q_own_rnn Z a ms h0 n0 _ s₁.heap _
  rw [e0]
  exact ⟨rfl, rfl, rfl⟩
def Q_own_empty (Z : State) (ms : Addr) (tm : Addr) (km : ClassId) (zl : Int32) (vsm : List Value) (h0 : Heap) (n0 : Nat) (v : Option Value) (h : Heap) (L : List Loc) : Prop := ∃ z : Int32, v = some (.int z) ∧ L = [] ∧ h = h0 ∧ (z = (if zl = (0 : Int32) then (1 : Int32) else (0 : Int32)))
set_option maxRecDepth 65536 in
set_option maxHeartbeats 40000000 in
theorem own_empty (l : Launch) (Z : State) (a0 : Array Value) (hw : ∀ d ∈ tables_1, d.before a0 Z = true) (ws : List Jvm.Cond) (ms : Addr) (tm : Addr) (km : ClassId) (zl : Int32) (vsm : List Value) (h0 : Heap) (n0 : Nat) (O0 : Old Z n0 h0) (f0_F_ms_value : Fld Z h0 ms "java/lang/String" "value" "[B" (.ref tm)) (f0_A_tm : Arv Z h0 tm km .byte zl vsm (.int (0 : Int32))) :
    MetFree l mt1 (head1 (Jvm.Cond.code mt1 jdk_42_method_55_code 1 (some .boolean) :: ws) ({ frames := 0, cells := 0, slots := 0, locals := 0 } : Room)) (fun aq U => aq = #[(.ref ms)] ∧ Z.Warmed39 U.vm ∧ U.heap = h0) (fun _ _ _ _ _ => True) (fun _ U o U' => ∃ v L, o = .returned v ∧ Q_own_empty Z ms tm km zl vsm h0 n0 v U'.heap L ∧ FrameEnd U o U' L ({ frames := 0, cells := 0, slots := 0, locals := 0 } : Room).cells ({ frames := 0, cells := 0, slots := 0, locals := 0 } : Room).slots) := by
  refine MetFree.of_bodySF (plainFor_of_name pn_java_lang_String) hisR ?_
  intro p e s m args below meth c s₁ Bd hml0 hP hK
  obtain ⟨rfl, hZ, hh⟩ := hP
  have hx := Bd.exec
  have hby := Bd.bytes
  have hml : c.maxLocals = 1 := hml0
  have hown : s.vm.findClass "java/lang/String" = some m.cls := findClass_of_methodNamed Bd.named
  have hnm := (name_of_methodNamed Bd.named Bd.method).1
  have X0 : Stand p l e ({ frames := 0, cells := 0, slots := 0, locals := 0 } : Room) s m #[(.ref ms)] below meth c s₁ [] 0 0 := Stand.of_body Bd
  have e0 : s₁.heap = h0 := by rw [← hh, Bd.state]; rfl
  have N0 := Fr.nil n0
  have zO := O0.1
  have zO2 := O0.2.1
  have fl_F_ms_value : h0.size > ms := f0_F_ms_value.lt
  have fl_A_tm : h0.size > tm := f0_A_tm.lt
  refine own_open (own_via (S' := s₁.setTop (mkF m 0 #[.val (.ref ms)] [])) (fun t k => castTop (ef_own_empty m ms) k) ?_)
  refine own_via (S' := s₁.setTop (mkF m 1 #[.val (.ref ms)] [(.ref ms)])) (fun t k => XS.aloadN X0.here hx rfl (hb hby d8_0) rfl rfl k) ?_
  obtain ⟨T1, X1, e1, st1⟩ := getF X0 hx hZ hown (host := "") (Or.inl (wd64 hw)) Via.refl e0 f0_F_ms_value (g := (mkF m 1 #[.val (.ref ms)] [(.ref ms)])) rfl rfl (hb hby d8_1)
  refine own_via (S' := T1.setTop (mkF m 4 #[.val (.ref ms)] [(.ref tm)])) st1 ?_
  obtain ⟨cl2, Ar2, -, S2, N2, -, -⟩ := id f0_A_tm
  refine own_via (S' := T1.setTop (mkF m 5 #[.val (.ref ms)] [(.int zl)])) (fun t k => X1.arraylength hx (by first | (rw [e1]; exact Ar2.1) | exact Ar2.1) (State.isArrayOf_alike hZ.alike Ar2.2.1) (g := (mkF m 4 #[.val (.ref ms)] [(.ref tm)])) rfl rfl (hb hby d8_4) _ (by rw [len_of S2 N2]; exact k)) ?_
  by_cases hc5_3 : zl = (0 : Int32)
  · -- yes
    refine own_via (S' := T1.setTop (mkF m 8 #[.val (.ref ms)] [])) (fun t k => XS.ifNo X1.here hx rfl (hb hby d8_5) rfl ((if0 _ _).trans (teq hc5_3).2) k) ?_
    refine own_via (S' := T1.setTop (mkF m 9 #[.val (.ref ms)] [(.int (1 : Int32))])) (fun t k => XS.iconst X1.here hx rfl (hb hby d8_8) k) ?_
    refine own_via (S' := T1.setTop (mkF m 13 #[.val (.ref ms)] [(.int (1 : Int32))])) (fun t k => XS.goto X1.here hx rfl (pc0 := 9) (pc' := 13) rfl (hb hby d8_9) (by decide) (by decide) k) ?_
    refine own_ret (Q := Q_own_empty Z ms tm km zl vsm h0 n0) (C := ({ frames := 0, cells := 0, slots := 0, locals := 0 } : Room).cells) (N := ({ frames := 0, cells := 0, slots := 0, locals := 0 } : Room).slots) X1 (v := some (.int (1 : Int32))) (fun h => by rw [Bd.returns] at h; cases h) Bd.notSynchronized ?_ (by decide) (by decide) (fun fs hr => retN X1 hx (t := .boolean) Bd.returns (by simp) (hb hby d8_13) hr)
    show Q_own_empty Z ms tm km zl vsm h0 n0 _ T1.heap _
    rw [e1]
    exact ⟨(1 : Int32), rfl, rfl, rfl, ((if_pos hc5_3)).symm⟩
  · -- no
    refine own_via (S' := T1.setTop (mkF m 12 #[.val (.ref ms)] [])) (fun t k => XS.ifYes X1.here hx rfl (pc0 := 5) (pc' := 12) rfl (hb hby d8_5) rfl ((if0 _ _).trans (feq hc5_3).2) (by decide) (by decide) k) ?_
    refine own_via (S' := T1.setTop (mkF m 13 #[.val (.ref ms)] [(.int (0 : Int32))])) (fun t k => XS.iconst X1.here hx rfl (hb hby d8_12) k) ?_
    refine own_ret (Q := Q_own_empty Z ms tm km zl vsm h0 n0) (C := ({ frames := 0, cells := 0, slots := 0, locals := 0 } : Room).cells) (N := ({ frames := 0, cells := 0, slots := 0, locals := 0 } : Room).slots) X1 (v := some (.int (0 : Int32))) (fun h => by rw [Bd.returns] at h; cases h) Bd.notSynchronized ?_ (by decide) (by decide) (fun fs hr => retN X1 hx (t := .boolean) Bd.returns (by simp) (hb hby d8_13) hr)
    show Q_own_empty Z ms tm km zl vsm h0 n0 _ T1.heap _
    rw [e1]
    exact ⟨(0 : Int32), rfl, rfl, rfl, ((if_neg hc5_3)).symm⟩
def Q_own_r5N (Z : State) (a : Addr) (d : Addr) (sc : Addr) (ms : Addr) (tm : Addr) (km : ClassId) (zl : Int32) (vsm : List Value) (wI : Addr) (wO : Addr) (h0 : Heap) (n0 : Nat) (v : Option Value) (vm : Vm) (h : Heap) (L : List Loc) : Prop := v = none ∧ Fr n0 L ∧ Keep h0 h [a] ∧ Fld Z h a "com/example/object_access_rules/objectaccessrules/Result" "decision" "Lcom/example/object_access_rules/objectaccessrules/Decision;" (.ref d) ∧ Fld Z h a "com/example/object_access_rules/objectaccessrules/Result" "status" "Lcom/example/object_access_rules/objectaccessrules/StatusCode;" (.ref sc) ∧ Fld Z h a "com/example/object_access_rules/objectaccessrules/Result" "message" "Ljava/lang/String;" (.ref ms) ∧ Fld Z h a "com/example/object_access_rules/objectaccessrules/Result" "step" "Ljava/lang/String;" .null ∧ Fld Z h a "com/example/object_access_rules/objectaccessrules/Result" "below" "Lcom/example/object_access_rules/objectaccessrules/Result;" .null
set_option maxRecDepth 65536 in
set_option maxHeartbeats 40000000 in
theorem own_r5N (l : Launch) (Z : State) (a0 : Array Value) (hw : ∀ d ∈ tables_1, d.before a0 Z = true) (ws : List Jvm.Cond) (a : Addr) (d : Addr) (sc : Addr) (ms : Addr) (tm : Addr) (km : ClassId) (zl : Int32) (vsm : List Value) (wI : Addr) (wO : Addr) (h0 : Heap) (n0 : Nat) (O0 : Old Z n0 h0) (zf_S_com_example_object_access_rules_objectaccessrules_Decision_INDETERMINATE : Sta Z Z.heap "com/example/object_access_rules/objectaccessrules/Decision" "INDETERMINATE" "Lcom/example/object_access_rules/objectaccessrules/Decision;" (.ref wI)) (zf_S_com_example_object_access_rules_objectaccessrules_StatusCode_OK : Sta Z Z.heap "com/example/object_access_rules/objectaccessrules/StatusCode" "OK" "Lcom/example/object_access_rules/objectaccessrules/StatusCode;" (.ref wO)) (f0_E_a : Exa Z h0 a "com/example/object_access_rules/objectaccessrules/Result") (f0_F_a_decision : Fld Z h0 a "com/example/object_access_rules/objectaccessrules/Result" "decision" "Lcom/example/object_access_rules/objectaccessrules/Decision;" .null) (f0_F_a_status : Fld Z h0 a "com/example/object_access_rules/objectaccessrules/Result" "status" "Lcom/example/object_access_rules/objectaccessrules/StatusCode;" .null) (f0_F_a_message : Fld Z h0 a "com/example/object_access_rules/objectaccessrules/Result" "message" "Ljava/lang/String;" .null) (f0_F_a_step : Fld Z h0 a "com/example/object_access_rules/objectaccessrules/Result" "step" "Ljava/lang/String;" .null) (f0_F_a_below : Fld Z h0 a "com/example/object_access_rules/objectaccessrules/Result" "below" "Lcom/example/object_access_rules/objectaccessrules/Result;" .null) (f0_E_d : Exa Z h0 d "com/example/object_access_rules/objectaccessrules/Decision") (f0_E_sc : Exa Z h0 sc "com/example/object_access_rules/objectaccessrules/StatusCode") (f0_E_ms : Exa Z h0 ms "java/lang/String") (f0_F_ms_value : Fld Z h0 ms "java/lang/String" "value" "[B" (.ref tm)) (f0_A_tm : Arv Z h0 tm km .byte zl vsm (.int (0 : Int32))) (g_a : n0 ≤ a) (hcons : (d = wI ∧ ¬ (sc = wO)) ∨ (¬ (d = wI) ∧ sc = wO ∧ zl = (0 : Int32))) :
    MetFree l mt2 (head1 (Jvm.Cond.code mt2 prog_37_method_3_code 6 none :: ws) ({ frames := 1, cells := 6, slots := 96, locals := 14 } : Room)) (fun aq U => aq = #[(.ref a), (.ref d), (.ref sc), (.ref ms), .null, .null] ∧ Z.Warmed39 U.vm ∧ U.heap = h0 ∧ CHv Z own_EL U.vm h0 ∧ ∀ x ∈ ([] : List Addr), Safe Z own_EL U.vm h0 x) (fun _ _ _ _ _ => True) (fun _ U o U' => ∃ v L, o = .returned v ∧ Q_own_r5N Z a d sc ms tm km zl vsm wI wO h0 n0 v U'.vm U'.heap L ∧ CHr Z own_EL U.vm U.heap U'.vm U'.heap ∧ ReturnedEndW U o U' L ({ frames := 1, cells := 6, slots := 96, locals := 14 } : Room).cells ({ frames := 1, cells := 6, slots := 96, locals := 14 } : Room).slots) := by
  refine MetFree.of_bodySF (plainFor_of_name pn_com_example_object_access_rules_objectaccessrules_Result) hisR ?_
  intro p e s m args below meth c s₁ Bd hml0 hP hK
  obtain ⟨rfl, hZ, hh, hCH, hSL⟩ := hP
  have hx := Bd.exec
  have hby := Bd.bytes
  have hml : c.maxLocals = 6 := hml0
  have hown : s.vm.findClass "com/example/object_access_rules/objectaccessrules/Result" = some m.cls := findClass_of_methodNamed Bd.named
  have hnm := (name_of_methodNamed Bd.named Bd.method).1
  have X0 : Stand p l e ({ frames := 1, cells := 6, slots := 96, locals := 14 } : Room) (s.setVm s.vm) m #[(.ref a), (.ref d), (.ref sc), (.ref ms), .null, .null] below meth c s₁ [] 0 0 := Stand.of_body Bd
  have e0 : s₁.heap = h0 := by rw [← hh, Bd.state]; rfl
  have N0 := Fr.nil n0
  have zO := O0.1
  have zO2 := O0.2.1
  have fl_E_a : h0.size > a := f0_E_a.lt
  have fl_F_a_decision : h0.size > a := f0_F_a_decision.lt
  have fl_F_a_status : h0.size > a := f0_F_a_status.lt
  have fl_F_a_message : h0.size > a := f0_F_a_message.lt
  have fl_F_a_step : h0.size > a := f0_F_a_step.lt
  have fl_F_a_below : h0.size > a := f0_F_a_below.lt
  have fl_E_d : h0.size > d := f0_E_d.lt
  have fl_E_sc : h0.size > sc := f0_E_sc.lt
  have fl_E_ms : h0.size > ms := f0_E_ms.lt
  have fl_F_ms_value : h0.size > ms := f0_F_ms_value.lt
  have fl_A_tm : h0.size > tm := f0_A_tm.lt
  refine own_open (own_via (S' := s₁.setTop (mkF m 0 #[.val (.ref a), .val (.ref d), .val (.ref sc), .val (.ref ms), .val .null, .val .null] [])) (fun t k => castTop (ef_own_r5N m a d sc ms) k) ?_)
  have hEL := own_EW hw
  have hS0 : s.Since s.vm h0.size := (State.WarmedH.refl s).since _
  have R0 : CHr Z own_EL s.vm h0 s.vm h0 := CHr.refl hCH
  have K0 : Keep h0 h0 [a] := Keep.refl _ _
  have ne_a_d : a ≠ d := Exa.ne f0_E_a f0_E_d (by decide)
  have ne_a_sc : a ≠ sc := Exa.ne f0_E_a f0_E_sc (by decide)
  have ne_a_ms : a ≠ ms := Exa.ne f0_E_a f0_E_ms (by decide)
  have ne_a_tm : a ≠ tm := Exa.neArv f0_E_a f0_A_tm (wd2 hw)
  have ne_d_sc : d ≠ sc := Exa.ne f0_E_d f0_E_sc (by decide)
  have ne_d_ms : d ≠ ms := Exa.ne f0_E_d f0_E_ms (by decide)
  have ne_sc_ms : sc ≠ ms := Exa.ne f0_E_sc f0_E_ms (by decide)
  have ne_ms_tm : ms ≠ tm := Exa.neArv f0_E_ms f0_A_tm (wd22 hw)
  refine own_via (S' := s₁.setTop (mkF m 1 #[.val (.ref a), .val (.ref d), .val (.ref sc), .val (.ref ms), .val .null, .val .null] [(.ref a)])) (fun t k => XS.aloadN X0.here hx rfl (hb hby d5_0) rfl rfl k) ?_
  obtain ⟨T1, X1, e1, st1⟩ := initO X0 hx hZ hown (wd34 hw) (wd35 hw) (wd36 hw) e0 (g := (mkF m 1 #[.val (.ref a), .val (.ref d), .val (.ref sc), .val (.ref ms), .val .null, .val .null] [(.ref a)])) rfl (by rw [hml]; rfl) rfl (hb hby d5_1) (by decide) (W := 0) (by show 2 * 0 + _ ≤ _; exact Nat.le_of_eq rfl) (by decide)
  refine own_via (S' := T1.setTop (mkF m 4 #[.val (.ref a), .val (.ref d), .val (.ref sc), .val (.ref ms), .val .null, .val .null] [])) st1 ?_
  refine own_via (S' := T1.setTop (mkF m 5 #[.val (.ref a), .val (.ref d), .val (.ref sc), .val (.ref ms), .val .null, .val .null] [(.ref a)])) (fun t k => XS.aloadN X1.here hx rfl (hb hby d5_4) rfl rfl k) ?_
  refine own_via (S' := T1.setTop (mkF m 6 #[.val (.ref a), .val (.ref d), .val (.ref sc), .val (.ref ms), .val .null, .val .null] [(.ref d), (.ref a)])) (fun t k => XS.aloadN X1.here hx rfl (hb hby d5_5) rfl rfl k) ?_
  obtain ⟨b2, T2, h2, kk2, t2, kb2, X2, e2, E2, hS2, hk2, hZ, hown, f2_0, f2_1, f2_2, f2_3, lta2, ltb2, R2q, hLit2, hsn2, st2⟩ := ldcCH X1 hx hZ hown (wd37 hw) (own_wS hw) e1 hS0 (by omega) hEL (List.mem_of_getElem? (i := 0) rfl) R0.1 (vs := [(.int (100 : Int32)), (.int (101 : Int32)), (.int (99 : Int32)), (.int (105 : Int32)), (.int (115 : Int32)), (.int (105 : Int32)), (.int (111 : Int32)), (.int (110 : Int32))]) (z := (8 : Int32)) ⟨by decide, rfl⟩ (by decide) rfl (g := (mkF m 6 #[.val (.ref a), .val (.ref d), .val (.ref sc), .val (.ref ms), .val .null, .val .null] [(.ref d), (.ref a)])) rfl (hb hby d5_6) (n := 32) (by decide) (by decide) (by decide) (by decide)
  have sz3 : h0.size ≤ h2.size := E2.1
  have O4 : Old Z n0 h2 := O0.ext E2
  have R5 : CHr Z own_EL s.vm h0 T2.vm h2 := R0.trans R2q
  have K6 : Keep h0 h2 [a] := K0.ext E2
  have lt_b2 : h2.size > b2 := lta2
  have lt_t2 : h2.size > t2 := ltb2
  have cx7 : Exa Z h2 a "com/example/object_access_rules/objectaccessrules/Result" := (f0_E_a.ext E2)
  have ne_a_b2 : a ≠ b2 := (hsn2 _ (Safe.exa hZ.alike cx7 (by decide) (by decide))).1
  have ne_a_t2 : a ≠ t2 := (hsn2 _ (Safe.exa hZ.alike cx7 (by decide) (by decide))).2
  have cx8 : Exa Z h2 d "com/example/object_access_rules/objectaccessrules/Decision" := (f0_E_d.ext E2)
  have ne_d_b2 : d ≠ b2 := (hsn2 _ (Safe.exa hZ.alike cx8 (by decide) (by decide))).1
  have ne_d_t2 : d ≠ t2 := (hsn2 _ (Safe.exa hZ.alike cx8 (by decide) (by decide))).2
  have cx9 : Exa Z h2 sc "com/example/object_access_rules/objectaccessrules/StatusCode" := (f0_E_sc.ext E2)
  have ne_sc_b2 : sc ≠ b2 := (hsn2 _ (Safe.exa hZ.alike cx9 (by decide) (by decide))).1
  have ne_sc_t2 : sc ≠ t2 := (hsn2 _ (Safe.exa hZ.alike cx9 (by decide) (by decide))).2
  refine own_via (S' := T2.setTop (mkF m 8 #[.val (.ref a), .val (.ref d), .val (.ref sc), .val (.ref ms), .val .null, .val .null] [(.ref b2), (.ref d), (.ref a)])) st2 ?_
  obtain ⟨_, _, ⟨T10, Lp10, kp10, np10⟩, -, X10, ⟨Lc10, hQ10, l10, y10, z10⟩, st10⟩ := Jvm.LawKit.callS X2 hx (y := mt0) hown (mvT hZ (wd38 hw)) (mvT hZ (wd39 hw)) (mvT hZ (wd40 hw)) (mvT hZ (wd41 hw)) (by decide) (backOf (W := 1) (own_rnn l Z a0 hw [] d b2 h2 n0 O4) hZ (wd41 hw) (wd40 hw) (by decide) (by decide)) (g := (mkF m 8 #[.val (.ref a), .val (.ref d), .val (.ref sc), .val (.ref ms), .val .null, .val .null] [(.ref b2), (.ref d), (.ref a)])) rfl (by rw [hml]; rfl) (argsL := [(.ref d), (.ref b2)]) (rest := [(.ref a)]) (lenOf pd__Ljava_lang_Object_Ljava_lang_String__Ljava_lang_Object__5105 rfl) rfl (by show 2 * 0 + _ ≤ _; exact Nat.le_of_eq rfl) (hb hby d5_8) (fun _ _ => ⟨rfl, e2, (by decide : 2 + 0 ≤ _), (by decide : 36 + 0 ≤ _)⟩)
  dsimp only [Pt.U, Pt.locs, Pt.cells, Pt.slots] at X10 l10 y10 z10 st10 hQ10
  subst Lp10 kp10 np10
  obtain ⟨rfl, rfl, e10⟩ := hQ10
  try rw [List.append_nil] at X10
  refine own_via (S' := T10.setTop (mkF m 11 #[.val (.ref a), .val (.ref d), .val (.ref sc), .val (.ref ms), .val .null, .val .null] [(.ref d), (.ref a)])) st10 ?_
  obtain ⟨T11, X11, e11, st11⟩ := castY X10 hx hZ hown (wd42 hw) e10 (Ins.self cx8) (g := (mkF m 11 #[.val (.ref a), .val (.ref d), .val (.ref sc), .val (.ref ms), .val .null, .val .null] [(.ref d), (.ref a)])) rfl rfl (hb hby d5_11)
  refine own_via (S' := T11.setTop (mkF m 14 #[.val (.ref a), .val (.ref d), .val (.ref sc), .val (.ref ms), .val .null, .val .null] [(.ref d), (.ref a)])) st11 ?_
  have cx12 : Fld Z h2 a "com/example/object_access_rules/objectaccessrules/Result" "decision" "Lcom/example/object_access_rules/objectaccessrules/Decision;" .null := (f0_F_a_decision.ext E2)
  obtain ⟨T13, h13, X13, e13, W13, st13⟩ := putF X11 hx hZ hown (host := "") (Or.inl (wd44 hw)) Via.refl e11 cx12 cx7 (Or.inr ⟨(wd45 hw), rfl, hnm⟩) (wd2 hw) (ty := (.object "com/example/object_access_rules/objectaccessrules/Decision")) (by decide) rfl rfl (g := (mkF m 14 #[.val (.ref a), .val (.ref d), .val (.ref sc), .val (.ref ms), .val .null, .val .null] [(.ref d), (.ref a)])) rfl rfl (hb hby d5_14)
  have sf13 : Safe Z own_EL T2.vm h2 a := (Safe.exa hZ.alike cx7 (by decide) (by decide))
  have sz14 : h2.size ≤ h13.size := Nat.le_of_eq W13.size.symm
  have R15 : CHr Z own_EL s.vm h0 T2.vm h13 := R5.trans (CHr.wr W13 sf13 R5.1)
  have O16 : Old Z n0 h13 := O4.wr W13 (by omega : n0 ≤ a)
  have N13 := Fr.snoc X13 N0 (by omega : n0 ≤ a)
  have K17 : Keep h0 h13 [a] := K6.wr W13 (Or.inl (List.mem_of_getElem? (i := 0) rfl))
  have Fw13 : Fld Z h13 a "com/example/object_access_rules/objectaccessrules/Result" "decision" "Lcom/example/object_access_rules/objectaccessrules/Decision;" (.ref d) := Fld.same W13 cx12
  refine own_via (S' := T13.setTop (mkF m 17 #[.val (.ref a), .val (.ref d), .val (.ref sc), .val (.ref ms), .val .null, .val .null] [])) st13 ?_
  refine own_via (S' := T13.setTop (mkF m 18 #[.val (.ref a), .val (.ref d), .val (.ref sc), .val (.ref ms), .val .null, .val .null] [(.ref a)])) (fun t k => XS.aloadN X13.here hx rfl (hb hby d5_17) rfl rfl k) ?_
  refine own_via (S' := T13.setTop (mkF m 19 #[.val (.ref a), .val (.ref d), .val (.ref sc), .val (.ref ms), .val .null, .val .null] [(.ref sc), (.ref a)])) (fun t k => XS.aloadN X13.here hx rfl (hb hby d5_18) rfl rfl k) ?_
  obtain ⟨b18, T18, h18, kk18, t18, kb18, X18, e18, E18, hS18, hk18, hZ, hown, f18_0, f18_1, f18_2, f18_3, lta18, ltb18, R18q, hLit18, hsn18, st18⟩ := ldcCH X13 hx hZ hown (wd46 hw) (own_wS hw) e13 hS2 (by omega) hEL (List.mem_of_getElem? (i := 1) rfl) R15.1 (vs := [(.int (115 : Int32)), (.int (116 : Int32)), (.int (97 : Int32)), (.int (116 : Int32)), (.int (117 : Int32)), (.int (115 : Int32))]) (z := (6 : Int32)) ⟨by decide, rfl⟩ (by decide) rfl (g := (mkF m 19 #[.val (.ref a), .val (.ref d), .val (.ref sc), .val (.ref ms), .val .null, .val .null] [(.ref sc), (.ref a)])) rfl (hb hby d5_19) (n := 24) (by decide) (by decide) (by decide) (by decide)
  have sz19 : h13.size ≤ h18.size := E18.1
  have O20 : Old Z n0 h18 := O16.ext E18
  have R21 : CHr Z own_EL s.vm h0 T18.vm h18 := R15.trans R18q
  have K22 : Keep h0 h18 [a] := K17.ext E18
  have lt_b18 : h18.size > b18 := lta18
  have lt_t18 : h18.size > t18 := ltb18
  have cx23 : Exa Z h18 a "com/example/object_access_rules/objectaccessrules/Result" := ((Exa.wr W13 cx7).ext E18)
  have ne_a_b18 : a ≠ b18 := (hsn18 _ (Safe.exa hZ.alike cx23 (by decide) (by decide))).1
  have ne_a_t18 : a ≠ t18 := (hsn18 _ (Safe.exa hZ.alike cx23 (by decide) (by decide))).2
  have cx24 : Exa Z h18 d "com/example/object_access_rules/objectaccessrules/Decision" := ((Exa.wr W13 cx8).ext E18)
  have ne_d_b18 : d ≠ b18 := (hsn18 _ (Safe.exa hZ.alike cx24 (by decide) (by decide))).1
  have ne_d_t18 : d ≠ t18 := (hsn18 _ (Safe.exa hZ.alike cx24 (by decide) (by decide))).2
  have cx25 : Exa Z h18 sc "com/example/object_access_rules/objectaccessrules/StatusCode" := ((Exa.wr W13 cx9).ext E18)
  have ne_sc_b18 : sc ≠ b18 := (hsn18 _ (Safe.exa hZ.alike cx25 (by decide) (by decide))).1
  have ne_sc_t18 : sc ≠ t18 := (hsn18 _ (Safe.exa hZ.alike cx25 (by decide) (by decide))).2
  refine own_via (S' := T18.setTop (mkF m 21 #[.val (.ref a), .val (.ref d), .val (.ref sc), .val (.ref ms), .val .null, .val .null] [(.ref b18), (.ref sc), (.ref a)])) st18 ?_
  obtain ⟨_, _, ⟨T26, Lp26, kp26, np26⟩, -, X26, ⟨Lc26, hQ26, l26, y26, z26⟩, st26⟩ := Jvm.LawKit.callS X18 hx (y := mt0) hown (mvT hZ (wd38 hw)) (mvT hZ (wd39 hw)) (mvT hZ (wd40 hw)) (mvT hZ (wd41 hw)) (by decide) (backOf (W := 1) (own_rnn l Z a0 hw [] sc b18 h18 n0 O20) hZ (wd41 hw) (wd40 hw) (by decide) (by decide)) (g := (mkF m 21 #[.val (.ref a), .val (.ref d), .val (.ref sc), .val (.ref ms), .val .null, .val .null] [(.ref b18), (.ref sc), (.ref a)])) rfl (by rw [hml]; rfl) (argsL := [(.ref sc), (.ref b18)]) (rest := [(.ref a)]) (lenOf pd__Ljava_lang_Object_Ljava_lang_String__Ljava_lang_Object__5105 rfl) rfl (by show 2 * 0 + _ ≤ _; exact Nat.le_of_eq rfl) (hb hby d5_21) (fun _ _ => ⟨rfl, e18, (by decide : 4 + 0 ≤ _), (by decide : 64 + 0 ≤ _)⟩)
  dsimp only [Pt.U, Pt.locs, Pt.cells, Pt.slots] at X26 l26 y26 z26 st26 hQ26
  subst Lp26 kp26 np26
  obtain ⟨rfl, rfl, e26⟩ := hQ26
  try rw [List.append_nil] at X26
  refine own_via (S' := T26.setTop (mkF m 24 #[.val (.ref a), .val (.ref d), .val (.ref sc), .val (.ref ms), .val .null, .val .null] [(.ref sc), (.ref a)])) st26 ?_
  obtain ⟨T27, X27, e27, st27⟩ := castY X26 hx hZ hown (wd47 hw) e26 (Ins.self cx25) (g := (mkF m 24 #[.val (.ref a), .val (.ref d), .val (.ref sc), .val (.ref ms), .val .null, .val .null] [(.ref sc), (.ref a)])) rfl rfl (hb hby d5_24)
  refine own_via (S' := T27.setTop (mkF m 27 #[.val (.ref a), .val (.ref d), .val (.ref sc), .val (.ref ms), .val .null, .val .null] [(.ref sc), (.ref a)])) st27 ?_
  have cx28 : Fld Z h18 a "com/example/object_access_rules/objectaccessrules/Result" "status" "Lcom/example/object_access_rules/objectaccessrules/StatusCode;" .null := ((Fld.other W13 (f0_F_a_status.ext E2) (Or.inr (slot_ne (Or.inr (wd50 hw)) (Or.inr (wd45 hw)) (by decide) (t := (.object "com/example/object_access_rules/objectaccessrules/StatusCode")) (t' := (.object "com/example/object_access_rules/objectaccessrules/Decision")) (by decide) (by decide)))).ext E18)
  obtain ⟨T29, h29, X29, e29, W29, st29⟩ := putF X27 hx hZ hown (host := "") (Or.inl (wd49 hw)) Via.refl e27 cx28 cx23 (Or.inr ⟨(wd50 hw), rfl, hnm⟩) (wd2 hw) (ty := (.object "com/example/object_access_rules/objectaccessrules/StatusCode")) (by decide) rfl rfl (g := (mkF m 27 #[.val (.ref a), .val (.ref d), .val (.ref sc), .val (.ref ms), .val .null, .val .null] [(.ref sc), (.ref a)])) rfl rfl (hb hby d5_27)
  have sf29 : Safe Z own_EL T18.vm h18 a := (Safe.exa hZ.alike cx23 (by decide) (by decide))
  have sz30 : h18.size ≤ h29.size := Nat.le_of_eq W29.size.symm
  have R31 : CHr Z own_EL s.vm h0 T18.vm h29 := R21.trans (CHr.wr W29 sf29 R21.1)
  have O32 : Old Z n0 h29 := O20.wr W29 (by omega : n0 ≤ a)
  have N29 := Fr.snoc X29 N13 (by omega : n0 ≤ a)
  have K33 : Keep h0 h29 [a] := K22.wr W29 (Or.inl (List.mem_of_getElem? (i := 0) rfl))
  have Fw29 : Fld Z h29 a "com/example/object_access_rules/objectaccessrules/Result" "status" "Lcom/example/object_access_rules/objectaccessrules/StatusCode;" (.ref sc) := Fld.same W29 cx28
  refine own_via (S' := T29.setTop (mkF m 30 #[.val (.ref a), .val (.ref d), .val (.ref sc), .val (.ref ms), .val .null, .val .null] [])) st29 ?_
  refine own_via (S' := T29.setTop (mkF m 31 #[.val (.ref a), .val (.ref d), .val (.ref sc), .val (.ref ms), .val .null, .val .null] [(.ref a)])) (fun t k => XS.aloadN X29.here hx rfl (hb hby d5_30) rfl rfl k) ?_
  refine own_via (S' := T29.setTop (mkF m 32 #[.val (.ref a), .val (.ref d), .val (.ref sc), .val (.ref ms), .val .null, .val .null] [(.ref ms), (.ref a)])) (fun t k => XS.aloadN X29.here hx rfl (hb hby d5_31) rfl rfl k) ?_
  obtain ⟨b34, T34, h34, kk34, t34, kb34, X34, e34, E34, hS34, hk34, hZ, hown, f34_0, f34_1, f34_2, f34_3, lta34, ltb34, R34q, hLit34, hsn34, st34⟩ := ldcCH X29 hx hZ hown (wd51 hw) (own_wS hw) e29 hS18 (by omega) hEL (List.mem_of_getElem? (i := 2) rfl) R31.1 (vs := [(.int (109 : Int32)), (.int (101 : Int32)), (.int (115 : Int32)), (.int (115 : Int32)), (.int (97 : Int32)), (.int (103 : Int32)), (.int (101 : Int32))]) (z := (7 : Int32)) ⟨by decide, rfl⟩ (by decide) rfl (g := (mkF m 32 #[.val (.ref a), .val (.ref d), .val (.ref sc), .val (.ref ms), .val .null, .val .null] [(.ref ms), (.ref a)])) rfl (hb hby d5_32) (n := 28) (by decide) (by decide) (by decide) (by decide)
  have sz35 : h29.size ≤ h34.size := E34.1
  have O36 : Old Z n0 h34 := O32.ext E34
  have R37 : CHr Z own_EL s.vm h0 T34.vm h34 := R31.trans R34q
  have K38 : Keep h0 h34 [a] := K33.ext E34
  have lt_b34 : h34.size > b34 := lta34
  have lt_t34 : h34.size > t34 := ltb34
  have cx39 : Exa Z h34 a "com/example/object_access_rules/objectaccessrules/Result" := ((Exa.wr W29 cx23).ext E34)
  have ne_a_b34 : a ≠ b34 := (hsn34 _ (Safe.exa hZ.alike cx39 (by decide) (by decide))).1
  have ne_a_t34 : a ≠ t34 := (hsn34 _ (Safe.exa hZ.alike cx39 (by decide) (by decide))).2
  have cx40 : Exa Z h34 d "com/example/object_access_rules/objectaccessrules/Decision" := ((Exa.wr W29 cx24).ext E34)
  have ne_d_b34 : d ≠ b34 := (hsn34 _ (Safe.exa hZ.alike cx40 (by decide) (by decide))).1
  have ne_d_t34 : d ≠ t34 := (hsn34 _ (Safe.exa hZ.alike cx40 (by decide) (by decide))).2
  have cx41 : Exa Z h34 sc "com/example/object_access_rules/objectaccessrules/StatusCode" := ((Exa.wr W29 cx25).ext E34)
  have ne_sc_b34 : sc ≠ b34 := (hsn34 _ (Safe.exa hZ.alike cx41 (by decide) (by decide))).1
  have ne_sc_t34 : sc ≠ t34 := (hsn34 _ (Safe.exa hZ.alike cx41 (by decide) (by decide))).2
  refine own_via (S' := T34.setTop (mkF m 34 #[.val (.ref a), .val (.ref d), .val (.ref sc), .val (.ref ms), .val .null, .val .null] [(.ref b34), (.ref ms), (.ref a)])) st34 ?_
  obtain ⟨_, _, ⟨T42, Lp42, kp42, np42⟩, -, X42, ⟨Lc42, hQ42, l42, y42, z42⟩, st42⟩ := Jvm.LawKit.callS X34 hx (y := mt0) hown (mvT hZ (wd38 hw)) (mvT hZ (wd39 hw)) (mvT hZ (wd40 hw)) (mvT hZ (wd41 hw)) (by decide) (backOf (W := 1) (own_rnn l Z a0 hw [] ms b34 h34 n0 O36) hZ (wd41 hw) (wd40 hw) (by decide) (by decide)) (g := (mkF m 34 #[.val (.ref a), .val (.ref d), .val (.ref sc), .val (.ref ms), .val .null, .val .null] [(.ref b34), (.ref ms), (.ref a)])) rfl (by rw [hml]; rfl) (argsL := [(.ref ms), (.ref b34)]) (rest := [(.ref a)]) (lenOf pd__Ljava_lang_Object_Ljava_lang_String__Ljava_lang_Object__5105 rfl) rfl (by show 2 * 0 + _ ≤ _; exact Nat.le_of_eq rfl) (hb hby d5_34) (fun _ _ => ⟨rfl, e34, (by decide : 6 + 0 ≤ _), (by decide : 96 + 0 ≤ _)⟩)
  dsimp only [Pt.U, Pt.locs, Pt.cells, Pt.slots] at X42 l42 y42 z42 st42 hQ42
  subst Lp42 kp42 np42
  obtain ⟨rfl, rfl, e42⟩ := hQ42
  try rw [List.append_nil] at X42
  refine own_via (S' := T42.setTop (mkF m 37 #[.val (.ref a), .val (.ref d), .val (.ref sc), .val (.ref ms), .val .null, .val .null] [(.ref ms), (.ref a)])) st42 ?_
  have cx43 : Exa Z h34 ms "java/lang/String" := ((Exa.wr W29 ((Exa.wr W13 (f0_E_ms.ext E2)).ext E18)).ext E34)
  obtain ⟨T44, X44, e44, st44⟩ := castY X42 hx hZ hown (wd52 hw) e42 (Ins.self cx43) (g := (mkF m 37 #[.val (.ref a), .val (.ref d), .val (.ref sc), .val (.ref ms), .val .null, .val .null] [(.ref ms), (.ref a)])) rfl rfl (hb hby d5_37)
  refine own_via (S' := T44.setTop (mkF m 40 #[.val (.ref a), .val (.ref d), .val (.ref sc), .val (.ref ms), .val .null, .val .null] [(.ref ms), (.ref a)])) st44 ?_
  have cx45 : Fld Z h34 a "com/example/object_access_rules/objectaccessrules/Result" "message" "Ljava/lang/String;" .null := ((Fld.other W29 ((Fld.other W13 (f0_F_a_message.ext E2) (Or.inr (slot_ne (Or.inr (wd55 hw)) (Or.inr (wd45 hw)) (by decide) (t := (.object "java/lang/String")) (t' := (.object "com/example/object_access_rules/objectaccessrules/Decision")) (by decide) (by decide)))).ext E18) (Or.inr (slot_ne (Or.inr (wd55 hw)) (Or.inr (wd50 hw)) (by decide) (t := (.object "java/lang/String")) (t' := (.object "com/example/object_access_rules/objectaccessrules/StatusCode")) (by decide) (by decide)))).ext E34)
  obtain ⟨T46, h46, X46, e46, W46, st46⟩ := putF X44 hx hZ hown (host := "") (Or.inl (wd54 hw)) Via.refl e44 cx45 cx39 (Or.inr ⟨(wd55 hw), rfl, hnm⟩) (wd2 hw) (ty := (.object "java/lang/String")) (by decide) rfl rfl (g := (mkF m 40 #[.val (.ref a), .val (.ref d), .val (.ref sc), .val (.ref ms), .val .null, .val .null] [(.ref ms), (.ref a)])) rfl rfl (hb hby d5_40)
  have sf46 : Safe Z own_EL T34.vm h34 a := (Safe.exa hZ.alike cx39 (by decide) (by decide))
  have sz47 : h34.size ≤ h46.size := Nat.le_of_eq W46.size.symm
  have R48 : CHr Z own_EL s.vm h0 T34.vm h46 := R37.trans (CHr.wr W46 sf46 R37.1)
  have O49 : Old Z n0 h46 := O36.wr W46 (by omega : n0 ≤ a)
  have N46 := Fr.snoc X46 N29 (by omega : n0 ≤ a)
  have K50 : Keep h0 h46 [a] := K38.wr W46 (Or.inl (List.mem_of_getElem? (i := 0) rfl))
  have Fw46 : Fld Z h46 a "com/example/object_access_rules/objectaccessrules/Result" "message" "Ljava/lang/String;" (.ref ms) := Fld.same W46 cx45
  refine own_via (S' := T46.setTop (mkF m 43 #[.val (.ref a), .val (.ref d), .val (.ref sc), .val (.ref ms), .val .null, .val .null] [])) st46 ?_
  refine own_via (S' := T46.setTop (mkF m 44 #[.val (.ref a), .val (.ref d), .val (.ref sc), .val (.ref ms), .val .null, .val .null] [(.ref d)])) (fun t k => XS.aloadN X46.here hx rfl (hb hby d5_43) rfl rfl k) ?_
  have cx51 : Sta Z h46 "com/example/object_access_rules/objectaccessrules/Decision" "INDETERMINATE" "Lcom/example/object_access_rules/objectaccessrules/Decision;" (.ref wI) := zf_S_com_example_object_access_rules_objectaccessrules_Decision_INDETERMINATE.ext O49.2
  obtain ⟨T52, X52, e52, st52⟩ := getS2 X46 hx hZ hown (host := "") (Or.inl (wd56 hw)) Via.refl e46 cx51 (g := (mkF m 44 #[.val (.ref a), .val (.ref d), .val (.ref sc), .val (.ref ms), .val .null, .val .null] [(.ref d)])) rfl (hb hby d5_44)
  refine own_via (S' := T52.setTop (mkF m 47 #[.val (.ref a), .val (.ref d), .val (.ref sc), .val (.ref ms), .val .null, .val .null] [(.ref wI), (.ref d)])) st52 ?_
  by_cases hc47_53 : d = wI
  · -- yes
    refine own_via (S' := T52.setTop (mkF m 50 #[.val (.ref a), .val (.ref d), .val (.ref sc), .val (.ref ms), .val .null, .val .null] [])) (fun t k => Jvm.RoadKit.acmp (g := (mkF m 47 #[.val (.ref a), .val (.ref d), .val (.ref sc), .val (.ref ms), .val .null, .val .null] [(.ref wI), (.ref d)])) X52 hx rfl rfl rfl (pc0 := 47) (pc' := 50) (same := true) rfl (hb hby d5_47) rfl (decide_eq_true (congrArg Value.ref hc47_53)) (by decide) (by decide) k) ?_
    refine own_via (S' := T52.setTop (mkF m 51 #[.val (.ref a), .val (.ref d), .val (.ref sc), .val (.ref ms), .val .null, .val .null] [(.int (1 : Int32))])) (fun t k => XS.iconst X52.here hx rfl (hb hby d5_50) k) ?_
    refine own_via (S' := T52.setTop (mkF m 55 #[.val (.ref a), .val (.ref d), .val (.ref sc), .val (.ref ms), .val .null, .val .null] [(.int (1 : Int32))])) (fun t k => XS.goto X52.here hx rfl (pc0 := 51) (pc' := 55) rfl (hb hby d5_51) (by decide) (by decide) k) ?_
    refine own_via (S' := T52.setTop (mkF m 56 #[.val (.ref a), .val (.ref d), .val (.ref sc), .val (.ref ms), .val .null, .val .null] [(.ref sc), (.int (1 : Int32))])) (fun t k => XS.aloadN X52.here hx rfl (hb hby d5_55) rfl rfl k) ?_
    have cx54 : Sta Z h46 "com/example/object_access_rules/objectaccessrules/StatusCode" "OK" "Lcom/example/object_access_rules/objectaccessrules/StatusCode;" (.ref wO) := zf_S_com_example_object_access_rules_objectaccessrules_StatusCode_OK.ext O49.2
    obtain ⟨T55, X55, e55, st55⟩ := getS2 X52 hx hZ hown (host := "") (Or.inl (wd58 hw)) Via.refl e52 cx54 (g := (mkF m 56 #[.val (.ref a), .val (.ref d), .val (.ref sc), .val (.ref ms), .val .null, .val .null] [(.ref sc), (.int (1 : Int32))])) rfl (hb hby d5_56)
    refine own_via (S' := T55.setTop (mkF m 59 #[.val (.ref a), .val (.ref d), .val (.ref sc), .val (.ref ms), .val .null, .val .null] [(.ref wO), (.ref sc), (.int (1 : Int32))])) st55 ?_
    have hc59_56 : ¬ (sc = wO) := by rcases hcons with q | q; exact q.2; exact absurd hc47_53 q.1
    refine own_via (S' := T55.setTop (mkF m 66 #[.val (.ref a), .val (.ref d), .val (.ref sc), .val (.ref ms), .val .null, .val .null] [(.int (1 : Int32))])) (fun t k => Jvm.RoadKit.acmp (g := (mkF m 59 #[.val (.ref a), .val (.ref d), .val (.ref sc), .val (.ref ms), .val .null, .val .null] [(.ref wO), (.ref sc), (.int (1 : Int32))])) X55 hx rfl rfl rfl (pc0 := 59) (pc' := 66) (same := false) rfl (hb hby d5_59) rfl (decide_eq_false fun q => hc59_56 (Value.ref.inj q)) (by decide) (by decide) k) ?_
    refine own_via (S' := T55.setTop (mkF m 67 #[.val (.ref a), .val (.ref d), .val (.ref sc), .val (.ref ms), .val .null, .val .null] [(.int (0 : Int32)), (.int (1 : Int32))])) (fun t k => XS.iconst X55.here hx rfl (hb hby d5_66) k) ?_
    refine own_via (S' := T55.setTop (mkF m 91 #[.val (.ref a), .val (.ref d), .val (.ref sc), .val (.ref ms), .val .null, .val .null] [])) (fun t k => XS.icmpYes X55.here hx rfl (pc0 := 67) (pc' := 91) rfl (hb hby d5_67) rfl (feq (by decide : ¬ ((1 : Int32) = (0 : Int32)))).2 (by decide) (by decide) k) ?_
    refine own_via (S' := T55.setTop (mkF m 92 #[.val (.ref a), .val (.ref d), .val (.ref sc), .val (.ref ms), .val .null, .val .null] [(.ref d)])) (fun t k => XS.aloadN X55.here hx rfl (hb hby d5_91) rfl rfl k) ?_
    obtain ⟨T57, X57, e57, st57⟩ := getS2 X55 hx hZ hown (host := "") (Or.inl (wd56 hw)) Via.refl e55 cx51 (g := (mkF m 92 #[.val (.ref a), .val (.ref d), .val (.ref sc), .val (.ref ms), .val .null, .val .null] [(.ref d)])) rfl (hb hby d5_92)
    refine own_via (S' := T57.setTop (mkF m 95 #[.val (.ref a), .val (.ref d), .val (.ref sc), .val (.ref ms), .val .null, .val .null] [(.ref wI), (.ref d)])) st57 ?_
    refine own_via (S' := T57.setTop (mkF m 123 #[.val (.ref a), .val (.ref d), .val (.ref sc), .val (.ref ms), .val .null, .val .null] [])) (fun t k => Jvm.RoadKit.acmp (g := (mkF m 95 #[.val (.ref a), .val (.ref d), .val (.ref sc), .val (.ref ms), .val .null, .val .null] [(.ref wI), (.ref d)])) X57 hx rfl rfl rfl (pc0 := 95) (pc' := 123) (same := true) rfl (hb hby d5_95) rfl (decide_eq_true (congrArg Value.ref hc47_53)) (by decide) (by decide) k) ?_
    refine own_via (S' := T57.setTop (mkF m 124 #[.val (.ref a), .val (.ref d), .val (.ref sc), .val (.ref ms), .val .null, .val .null] [(.ref a)])) (fun t k => XS.aloadN X57.here hx rfl (hb hby d5_123) rfl rfl k) ?_
    refine own_via (S' := T57.setTop (mkF m 126 #[.val (.ref a), .val (.ref d), .val (.ref sc), .val (.ref ms), .val .null, .val .null] [.null, (.ref a)])) (fun t k => XS.aload X57.here hx rfl (hb hby d5_124) rfl rfl k) ?_
    have cx58 : Exa Z h46 a "com/example/object_access_rules/objectaccessrules/Result" := (Exa.wr W46 cx39)
    have cx59 : Fld Z h46 a "com/example/object_access_rules/objectaccessrules/Result" "step" "Ljava/lang/String;" .null := (Fld.other W46 ((Fld.other W29 ((Fld.other W13 (f0_F_a_step.ext E2) (Or.inr (slot_ne (Or.inr (wd66 hw)) (Or.inr (wd45 hw)) (by decide) (t := (.object "java/lang/String")) (t' := (.object "com/example/object_access_rules/objectaccessrules/Decision")) (by decide) (by decide)))).ext E18) (Or.inr (slot_ne (Or.inr (wd66 hw)) (Or.inr (wd50 hw)) (by decide) (t := (.object "java/lang/String")) (t' := (.object "com/example/object_access_rules/objectaccessrules/StatusCode")) (by decide) (by decide)))).ext E34) (Or.inr (slot_ne (Or.inr (wd66 hw)) (Or.inr (wd55 hw)) (by decide) (t := (.object "java/lang/String")) (t' := (.object "java/lang/String")) (by decide) (by decide))))
    obtain ⟨T60, h60, X60, e60, W60, st60⟩ := putF X57 hx hZ hown (host := "") (Or.inl (wd65 hw)) Via.refl e57 cx59 cx58 (Or.inr ⟨(wd66 hw), rfl, hnm⟩) (wd2 hw) (ty := (.object "java/lang/String")) (by decide) rfl rfl (g := (mkF m 126 #[.val (.ref a), .val (.ref d), .val (.ref sc), .val (.ref ms), .val .null, .val .null] [.null, (.ref a)])) rfl rfl (hb hby d5_126)
    have sf60 : Safe Z own_EL T34.vm h46 a := (Safe.exa hZ.alike cx58 (by decide) (by decide))
    have sz61 : h46.size ≤ h60.size := Nat.le_of_eq W60.size.symm
    have R62 : CHr Z own_EL s.vm h0 T34.vm h60 := R48.trans (CHr.wr W60 sf60 R48.1)
    have O63 : Old Z n0 h60 := O49.wr W60 (by omega : n0 ≤ a)
    have N60 := Fr.snoc X60 N46 (by omega : n0 ≤ a)
    have K64 : Keep h0 h60 [a] := K50.wr W60 (Or.inl (List.mem_of_getElem? (i := 0) rfl))
    have Fw60 : Fld Z h60 a "com/example/object_access_rules/objectaccessrules/Result" "step" "Ljava/lang/String;" .null := Fld.same W60 cx59
    refine own_via (S' := T60.setTop (mkF m 129 #[.val (.ref a), .val (.ref d), .val (.ref sc), .val (.ref ms), .val .null, .val .null] [])) st60 ?_
    refine own_via (S' := T60.setTop (mkF m 130 #[.val (.ref a), .val (.ref d), .val (.ref sc), .val (.ref ms), .val .null, .val .null] [(.ref a)])) (fun t k => XS.aloadN X60.here hx rfl (hb hby d5_129) rfl rfl k) ?_
    refine own_via (S' := T60.setTop (mkF m 132 #[.val (.ref a), .val (.ref d), .val (.ref sc), .val (.ref ms), .val .null, .val .null] [.null, (.ref a)])) (fun t k => XS.aload X60.here hx rfl (hb hby d5_130) rfl rfl k) ?_
    have cx65 : Exa Z h60 a "com/example/object_access_rules/objectaccessrules/Result" := (Exa.wr W60 cx58)
    have cx66 : Fld Z h60 a "com/example/object_access_rules/objectaccessrules/Result" "below" "Lcom/example/object_access_rules/objectaccessrules/Result;" .null := (Fld.other W60 (Fld.other W46 ((Fld.other W29 ((Fld.other W13 (f0_F_a_below.ext E2) (Or.inr (slot_ne (Or.inr (wd68 hw)) (Or.inr (wd45 hw)) (by decide) (t := (.object "com/example/object_access_rules/objectaccessrules/Result")) (t' := (.object "com/example/object_access_rules/objectaccessrules/Decision")) (by decide) (by decide)))).ext E18) (Or.inr (slot_ne (Or.inr (wd68 hw)) (Or.inr (wd50 hw)) (by decide) (t := (.object "com/example/object_access_rules/objectaccessrules/Result")) (t' := (.object "com/example/object_access_rules/objectaccessrules/StatusCode")) (by decide) (by decide)))).ext E34) (Or.inr (slot_ne (Or.inr (wd68 hw)) (Or.inr (wd55 hw)) (by decide) (t := (.object "com/example/object_access_rules/objectaccessrules/Result")) (t' := (.object "java/lang/String")) (by decide) (by decide)))) (Or.inr (slot_ne (Or.inr (wd68 hw)) (Or.inr (wd66 hw)) (by decide) (t := (.object "com/example/object_access_rules/objectaccessrules/Result")) (t' := (.object "java/lang/String")) (by decide) (by decide))))
    obtain ⟨T67, h67, X67, e67, W67, st67⟩ := putF X60 hx hZ hown (host := "") (Or.inl (wd67 hw)) Via.refl e60 cx66 cx65 (Or.inr ⟨(wd68 hw), rfl, hnm⟩) (wd2 hw) (ty := (.object "com/example/object_access_rules/objectaccessrules/Result")) (by decide) rfl rfl (g := (mkF m 132 #[.val (.ref a), .val (.ref d), .val (.ref sc), .val (.ref ms), .val .null, .val .null] [.null, (.ref a)])) rfl rfl (hb hby d5_132)
    have sf67 : Safe Z own_EL T34.vm h60 a := (Safe.exa hZ.alike cx65 (by decide) (by decide))
    have sz68 : h60.size ≤ h67.size := Nat.le_of_eq W67.size.symm
    have R69 : CHr Z own_EL s.vm h0 T34.vm h67 := R62.trans (CHr.wr W67 sf67 R62.1)
    have O70 : Old Z n0 h67 := O63.wr W67 (by omega : n0 ≤ a)
    have N67 := Fr.snoc X67 N60 (by omega : n0 ≤ a)
    have K71 : Keep h0 h67 [a] := K64.wr W67 (Or.inl (List.mem_of_getElem? (i := 0) rfl))
    have Fw67 : Fld Z h67 a "com/example/object_access_rules/objectaccessrules/Result" "below" "Lcom/example/object_access_rules/objectaccessrules/Result;" .null := Fld.same W67 cx66
    refine own_via (S' := T67.setTop (mkF m 135 #[.val (.ref a), .val (.ref d), .val (.ref sc), .val (.ref ms), .val .null, .val .null] [])) st67 ?_
    have cx72 : Fld Z h67 a "com/example/object_access_rules/objectaccessrules/Result" "decision" "Lcom/example/object_access_rules/objectaccessrules/Decision;" (.ref d) := (Fld.other W67 (Fld.other W60 (Fld.other W46 ((Fld.other W29 (Fw13.ext E18) (Or.inr (slot_ne (Or.inr (wd45 hw)) (Or.inr (wd50 hw)) (by decide) (t := (.object "com/example/object_access_rules/objectaccessrules/Decision")) (t' := (.object "com/example/object_access_rules/objectaccessrules/StatusCode")) (by decide) (by decide)))).ext E34) (Or.inr (slot_ne (Or.inr (wd45 hw)) (Or.inr (wd55 hw)) (by decide) (t := (.object "com/example/object_access_rules/objectaccessrules/Decision")) (t' := (.object "java/lang/String")) (by decide) (by decide)))) (Or.inr (slot_ne (Or.inr (wd45 hw)) (Or.inr (wd66 hw)) (by decide) (t := (.object "com/example/object_access_rules/objectaccessrules/Decision")) (t' := (.object "java/lang/String")) (by decide) (by decide)))) (Or.inr (slot_ne (Or.inr (wd45 hw)) (Or.inr (wd68 hw)) (by decide) (t := (.object "com/example/object_access_rules/objectaccessrules/Decision")) (t' := (.object "com/example/object_access_rules/objectaccessrules/Result")) (by decide) (by decide))))
    have cx73 : Fld Z h67 a "com/example/object_access_rules/objectaccessrules/Result" "status" "Lcom/example/object_access_rules/objectaccessrules/StatusCode;" (.ref sc) := (Fld.other W67 (Fld.other W60 (Fld.other W46 (Fw29.ext E34) (Or.inr (slot_ne (Or.inr (wd50 hw)) (Or.inr (wd55 hw)) (by decide) (t := (.object "com/example/object_access_rules/objectaccessrules/StatusCode")) (t' := (.object "java/lang/String")) (by decide) (by decide)))) (Or.inr (slot_ne (Or.inr (wd50 hw)) (Or.inr (wd66 hw)) (by decide) (t := (.object "com/example/object_access_rules/objectaccessrules/StatusCode")) (t' := (.object "java/lang/String")) (by decide) (by decide)))) (Or.inr (slot_ne (Or.inr (wd50 hw)) (Or.inr (wd68 hw)) (by decide) (t := (.object "com/example/object_access_rules/objectaccessrules/StatusCode")) (t' := (.object "com/example/object_access_rules/objectaccessrules/Result")) (by decide) (by decide))))
    have cx74 : Fld Z h67 a "com/example/object_access_rules/objectaccessrules/Result" "message" "Ljava/lang/String;" (.ref ms) := (Fld.other W67 (Fld.other W60 Fw46 (Or.inr (slot_ne (Or.inr (wd55 hw)) (Or.inr (wd66 hw)) (by decide) (t := (.object "java/lang/String")) (t' := (.object "java/lang/String")) (by decide) (by decide)))) (Or.inr (slot_ne (Or.inr (wd55 hw)) (Or.inr (wd68 hw)) (by decide) (t := (.object "java/lang/String")) (t' := (.object "com/example/object_access_rules/objectaccessrules/Result")) (by decide) (by decide))))
    have cx75 : Fld Z h67 a "com/example/object_access_rules/objectaccessrules/Result" "step" "Ljava/lang/String;" .null := (Fld.other W67 Fw60 (Or.inr (slot_ne (Or.inr (wd66 hw)) (Or.inr (wd68 hw)) (by decide) (t := (.object "java/lang/String")) (t' := (.object "com/example/object_access_rules/objectaccessrules/Result")) (by decide) (by decide))))
    have RTR69 : CHr Z own_EL s.vm h0 T67.vm h67 := R69.trans (CHv.at X67 hZ hEL R69.1)
    have RXR69 : CHr Z own_EL s.vm s.heap T67.vm T67.heap := by rw [hh, e67]; exact RTR69
    refine own_retW (Q := Q_own_r5N Z a d sc ms tm km zl vsm wI wO h0 n0) (C := ({ frames := 1, cells := 6, slots := 96, locals := 14 } : Room).cells) (N := ({ frames := 1, cells := 6, slots := 96, locals := 14 } : Room).slots) X67 hS34 (by rw [e67]; omega) (v := none) (fun _ => rfl) Bd.notSynchronized ?_ RXR69 (by decide) (by decide) (fun fs hr => X67.returnOut hx Bd.returns (hb hby d5_135) hr)
    show Q_own_r5N Z a d sc ms tm km zl vsm wI wO h0 n0 _ T67.vm T67.heap _
    rw [e67]
    exact ⟨rfl, N67, K71, cx72, cx73, cx74, cx75, Fw67⟩
  · -- no
    refine own_via (S' := T52.setTop (mkF m 54 #[.val (.ref a), .val (.ref d), .val (.ref sc), .val (.ref ms), .val .null, .val .null] [])) (fun t k => Jvm.RoadKit.acmp (g := (mkF m 47 #[.val (.ref a), .val (.ref d), .val (.ref sc), .val (.ref ms), .val .null, .val .null] [(.ref wI), (.ref d)])) X52 hx rfl rfl rfl (pc0 := 47) (pc' := 54) (same := false) rfl (hb hby d5_47) rfl (decide_eq_false fun q => hc47_53 (Value.ref.inj q)) (by decide) (by decide) k) ?_
    refine own_via (S' := T52.setTop (mkF m 55 #[.val (.ref a), .val (.ref d), .val (.ref sc), .val (.ref ms), .val .null, .val .null] [(.int (0 : Int32))])) (fun t k => XS.iconst X52.here hx rfl (hb hby d5_54) k) ?_
    refine own_via (S' := T52.setTop (mkF m 56 #[.val (.ref a), .val (.ref d), .val (.ref sc), .val (.ref ms), .val .null, .val .null] [(.ref sc), (.int (0 : Int32))])) (fun t k => XS.aloadN X52.here hx rfl (hb hby d5_55) rfl rfl k) ?_
    have cx76 : Sta Z h46 "com/example/object_access_rules/objectaccessrules/StatusCode" "OK" "Lcom/example/object_access_rules/objectaccessrules/StatusCode;" (.ref wO) := zf_S_com_example_object_access_rules_objectaccessrules_StatusCode_OK.ext O49.2
    obtain ⟨T77, X77, e77, st77⟩ := getS2 X52 hx hZ hown (host := "") (Or.inl (wd58 hw)) Via.refl e52 cx76 (g := (mkF m 56 #[.val (.ref a), .val (.ref d), .val (.ref sc), .val (.ref ms), .val .null, .val .null] [(.ref sc), (.int (0 : Int32))])) rfl (hb hby d5_56)
    refine own_via (S' := T77.setTop (mkF m 59 #[.val (.ref a), .val (.ref d), .val (.ref sc), .val (.ref ms), .val .null, .val .null] [(.ref wO), (.ref sc), (.int (0 : Int32))])) st77 ?_
    have hc59_78 : sc = wO := by rcases hcons with q | q; exact absurd q.1 hc47_53; exact q.2.1
    refine own_via (S' := T77.setTop (mkF m 62 #[.val (.ref a), .val (.ref d), .val (.ref sc), .val (.ref ms), .val .null, .val .null] [(.int (0 : Int32))])) (fun t k => Jvm.RoadKit.acmp (g := (mkF m 59 #[.val (.ref a), .val (.ref d), .val (.ref sc), .val (.ref ms), .val .null, .val .null] [(.ref wO), (.ref sc), (.int (0 : Int32))])) X77 hx rfl rfl rfl (pc0 := 59) (pc' := 62) (same := true) rfl (hb hby d5_59) rfl (decide_eq_true (congrArg Value.ref hc59_78)) (by decide) (by decide) k) ?_
    refine own_via (S' := T77.setTop (mkF m 63 #[.val (.ref a), .val (.ref d), .val (.ref sc), .val (.ref ms), .val .null, .val .null] [(.int (1 : Int32)), (.int (0 : Int32))])) (fun t k => XS.iconst X77.here hx rfl (hb hby d5_62) k) ?_
    refine own_via (S' := T77.setTop (mkF m 67 #[.val (.ref a), .val (.ref d), .val (.ref sc), .val (.ref ms), .val .null, .val .null] [(.int (1 : Int32)), (.int (0 : Int32))])) (fun t k => XS.goto X77.here hx rfl (pc0 := 63) (pc' := 67) rfl (hb hby d5_63) (by decide) (by decide) k) ?_
    refine own_via (S' := T77.setTop (mkF m 91 #[.val (.ref a), .val (.ref d), .val (.ref sc), .val (.ref ms), .val .null, .val .null] [])) (fun t k => XS.icmpYes X77.here hx rfl (pc0 := 67) (pc' := 91) rfl (hb hby d5_67) rfl (feq (by decide : ¬ ((0 : Int32) = (1 : Int32)))).2 (by decide) (by decide) k) ?_
    refine own_via (S' := T77.setTop (mkF m 92 #[.val (.ref a), .val (.ref d), .val (.ref sc), .val (.ref ms), .val .null, .val .null] [(.ref d)])) (fun t k => XS.aloadN X77.here hx rfl (hb hby d5_91) rfl rfl k) ?_
    obtain ⟨T79, X79, e79, st79⟩ := getS2 X77 hx hZ hown (host := "") (Or.inl (wd56 hw)) Via.refl e77 cx51 (g := (mkF m 92 #[.val (.ref a), .val (.ref d), .val (.ref sc), .val (.ref ms), .val .null, .val .null] [(.ref d)])) rfl (hb hby d5_92)
    refine own_via (S' := T79.setTop (mkF m 95 #[.val (.ref a), .val (.ref d), .val (.ref sc), .val (.ref ms), .val .null, .val .null] [(.ref wI), (.ref d)])) st79 ?_
    refine own_via (S' := T79.setTop (mkF m 98 #[.val (.ref a), .val (.ref d), .val (.ref sc), .val (.ref ms), .val .null, .val .null] [])) (fun t k => Jvm.RoadKit.acmp (g := (mkF m 95 #[.val (.ref a), .val (.ref d), .val (.ref sc), .val (.ref ms), .val .null, .val .null] [(.ref wI), (.ref d)])) X79 hx rfl rfl rfl (pc0 := 95) (pc' := 98) (same := false) rfl (hb hby d5_95) rfl (decide_eq_false fun q => hc47_53 (Value.ref.inj q)) (by decide) (by decide) k) ?_
    refine own_via (S' := T79.setTop (mkF m 99 #[.val (.ref a), .val (.ref d), .val (.ref sc), .val (.ref ms), .val .null, .val .null] [(.ref ms)])) (fun t k => XS.aloadN X79.here hx rfl (hb hby d5_98) rfl rfl k) ?_
    have hzl : zl = (0 : Int32) := by rcases hcons with q | q; exact absurd q.1 hc47_53; exact q.2.2
    have cx81 : Fld Z h46 ms "java/lang/String" "value" "[B" (.ref tm) := (Fld.other W46 ((Fld.other W29 ((Fld.other W13 (f0_F_ms_value.ext E2) (Or.inl (Ne.symm ne_a_ms))).ext E18) (Or.inl (Ne.symm ne_a_ms))).ext E34) (Or.inl (Ne.symm ne_a_ms)))
    have cx82 : Arv Z h46 tm km .byte zl vsm (.int (0 : Int32)) := ((((((f0_A_tm.ext E2).other W13 (Ne.symm ne_a_tm)).ext E18).other W29 (Ne.symm ne_a_tm)).ext E34).other W46 (Ne.symm ne_a_tm))
    have cx83 : Exa Z h46 ms "java/lang/String" := (Exa.wr W46 cx43)
    obtain ⟨cq80, kq80, q80a, q80b, q80c⟩ := isOf hZ e79 cx83
    obtain ⟨_, _, ⟨T80, Lp80, kp80, np80⟩, -, X80, ⟨Lc80, hQ80, l80, y80, z80⟩, st80⟩ := X79.virtualBack hx (y := mt1) (z := mt1) hown (mvT hZ (wd59 hw)) (mvT hZ (wd60 hw)) (notFace_of_selects (args := #[]) (mvT hZ (wd62 hw))) (mvT hZ (wd62 hw)) (mvT hZ (wd61 hw)) (by decide) (backOf (W := 0) (own_empty l Z a0 hw [] ms tm km zl vsm h46 n0 O49 cx81 cx82) hZ (wd63 hw) (wd21 hw) (by decide) (by decide)) q80a q80c (g := (mkF m 99 #[.val (.ref a), .val (.ref d), .val (.ref sc), .val (.ref ms), .val .null, .val .null] [(.ref ms)])) rfl (by rw [hml]; rfl) (Steps.refl _) (argsL := []) (rest := []) (lenOf pd___Z_171 rfl) rfl (by show 2 * 0 + _ ≤ _; exact Nat.le_of_eq rfl) (hb hby d5_99) (fun _ _ => ⟨rfl, e79, (by decide : 6 + 0 ≤ _), (by decide : 96 + 0 ≤ _)⟩)
    dsimp only [Pt.U, Pt.locs, Pt.cells, Pt.slots] at X80 l80 y80 z80 st80 hQ80
    subst Lp80 kp80 np80
    obtain ⟨z80, rfl, rfl, e80, hz80_0⟩ := hQ80
    try rw [List.append_nil] at X80
    refine own_tr (S' := T80.setTop (mkF m 102 #[.val (.ref a), .val (.ref d), .val (.ref sc), .val (.ref ms), .val .null, .val .null] [(.int z80)])) st80 ?_
    obtain rfl : z80 = (1 : Int32) := hz80_0.trans (if_pos hzl)
    refine own_via (S' := T80.setTop (mkF m 123 #[.val (.ref a), .val (.ref d), .val (.ref sc), .val (.ref ms), .val .null, .val .null] [])) (fun t k => XS.ifYes X80.here hx rfl (pc0 := 102) (pc' := 123) rfl (hb hby d5_102) rfl ((if0 _ _).trans (feq (by decide : ¬ ((1 : Int32) = (0 : Int32)))).2) (by decide) (by decide) k) ?_
    refine own_via (S' := T80.setTop (mkF m 124 #[.val (.ref a), .val (.ref d), .val (.ref sc), .val (.ref ms), .val .null, .val .null] [(.ref a)])) (fun t k => XS.aloadN X80.here hx rfl (hb hby d5_123) rfl rfl k) ?_
    refine own_via (S' := T80.setTop (mkF m 126 #[.val (.ref a), .val (.ref d), .val (.ref sc), .val (.ref ms), .val .null, .val .null] [.null, (.ref a)])) (fun t k => XS.aload X80.here hx rfl (hb hby d5_124) rfl rfl k) ?_
    have cx85 : Exa Z h46 a "com/example/object_access_rules/objectaccessrules/Result" := (Exa.wr W46 cx39)
    have cx86 : Fld Z h46 a "com/example/object_access_rules/objectaccessrules/Result" "step" "Ljava/lang/String;" .null := (Fld.other W46 ((Fld.other W29 ((Fld.other W13 (f0_F_a_step.ext E2) (Or.inr (slot_ne (Or.inr (wd66 hw)) (Or.inr (wd45 hw)) (by decide) (t := (.object "java/lang/String")) (t' := (.object "com/example/object_access_rules/objectaccessrules/Decision")) (by decide) (by decide)))).ext E18) (Or.inr (slot_ne (Or.inr (wd66 hw)) (Or.inr (wd50 hw)) (by decide) (t := (.object "java/lang/String")) (t' := (.object "com/example/object_access_rules/objectaccessrules/StatusCode")) (by decide) (by decide)))).ext E34) (Or.inr (slot_ne (Or.inr (wd66 hw)) (Or.inr (wd55 hw)) (by decide) (t := (.object "java/lang/String")) (t' := (.object "java/lang/String")) (by decide) (by decide))))
    obtain ⟨T87, h87, X87, e87, W87, st87⟩ := putF X80 hx hZ hown (host := "") (Or.inl (wd65 hw)) Via.refl e80 cx86 cx85 (Or.inr ⟨(wd66 hw), rfl, hnm⟩) (wd2 hw) (ty := (.object "java/lang/String")) (by decide) rfl rfl (g := (mkF m 126 #[.val (.ref a), .val (.ref d), .val (.ref sc), .val (.ref ms), .val .null, .val .null] [.null, (.ref a)])) rfl rfl (hb hby d5_126)
    have sf87 : Safe Z own_EL T34.vm h46 a := (Safe.exa hZ.alike cx85 (by decide) (by decide))
    have sz88 : h46.size ≤ h87.size := Nat.le_of_eq W87.size.symm
    have R89 : CHr Z own_EL s.vm h0 T34.vm h87 := R48.trans (CHr.wr W87 sf87 R48.1)
    have O90 : Old Z n0 h87 := O49.wr W87 (by omega : n0 ≤ a)
    have N87 := Fr.snoc X87 N46 (by omega : n0 ≤ a)
    have K91 : Keep h0 h87 [a] := K50.wr W87 (Or.inl (List.mem_of_getElem? (i := 0) rfl))
    have Fw87 : Fld Z h87 a "com/example/object_access_rules/objectaccessrules/Result" "step" "Ljava/lang/String;" .null := Fld.same W87 cx86
    refine own_via (S' := T87.setTop (mkF m 129 #[.val (.ref a), .val (.ref d), .val (.ref sc), .val (.ref ms), .val .null, .val .null] [])) st87 ?_
    refine own_via (S' := T87.setTop (mkF m 130 #[.val (.ref a), .val (.ref d), .val (.ref sc), .val (.ref ms), .val .null, .val .null] [(.ref a)])) (fun t k => XS.aloadN X87.here hx rfl (hb hby d5_129) rfl rfl k) ?_
    refine own_via (S' := T87.setTop (mkF m 132 #[.val (.ref a), .val (.ref d), .val (.ref sc), .val (.ref ms), .val .null, .val .null] [.null, (.ref a)])) (fun t k => XS.aload X87.here hx rfl (hb hby d5_130) rfl rfl k) ?_
    have cx92 : Exa Z h87 a "com/example/object_access_rules/objectaccessrules/Result" := (Exa.wr W87 cx85)
    have cx93 : Fld Z h87 a "com/example/object_access_rules/objectaccessrules/Result" "below" "Lcom/example/object_access_rules/objectaccessrules/Result;" .null := (Fld.other W87 (Fld.other W46 ((Fld.other W29 ((Fld.other W13 (f0_F_a_below.ext E2) (Or.inr (slot_ne (Or.inr (wd68 hw)) (Or.inr (wd45 hw)) (by decide) (t := (.object "com/example/object_access_rules/objectaccessrules/Result")) (t' := (.object "com/example/object_access_rules/objectaccessrules/Decision")) (by decide) (by decide)))).ext E18) (Or.inr (slot_ne (Or.inr (wd68 hw)) (Or.inr (wd50 hw)) (by decide) (t := (.object "com/example/object_access_rules/objectaccessrules/Result")) (t' := (.object "com/example/object_access_rules/objectaccessrules/StatusCode")) (by decide) (by decide)))).ext E34) (Or.inr (slot_ne (Or.inr (wd68 hw)) (Or.inr (wd55 hw)) (by decide) (t := (.object "com/example/object_access_rules/objectaccessrules/Result")) (t' := (.object "java/lang/String")) (by decide) (by decide)))) (Or.inr (slot_ne (Or.inr (wd68 hw)) (Or.inr (wd66 hw)) (by decide) (t := (.object "com/example/object_access_rules/objectaccessrules/Result")) (t' := (.object "java/lang/String")) (by decide) (by decide))))
    obtain ⟨T94, h94, X94, e94, W94, st94⟩ := putF X87 hx hZ hown (host := "") (Or.inl (wd67 hw)) Via.refl e87 cx93 cx92 (Or.inr ⟨(wd68 hw), rfl, hnm⟩) (wd2 hw) (ty := (.object "com/example/object_access_rules/objectaccessrules/Result")) (by decide) rfl rfl (g := (mkF m 132 #[.val (.ref a), .val (.ref d), .val (.ref sc), .val (.ref ms), .val .null, .val .null] [.null, (.ref a)])) rfl rfl (hb hby d5_132)
    have sf94 : Safe Z own_EL T34.vm h87 a := (Safe.exa hZ.alike cx92 (by decide) (by decide))
    have sz95 : h87.size ≤ h94.size := Nat.le_of_eq W94.size.symm
    have R96 : CHr Z own_EL s.vm h0 T34.vm h94 := R89.trans (CHr.wr W94 sf94 R89.1)
    have O97 : Old Z n0 h94 := O90.wr W94 (by omega : n0 ≤ a)
    have N94 := Fr.snoc X94 N87 (by omega : n0 ≤ a)
    have K98 : Keep h0 h94 [a] := K91.wr W94 (Or.inl (List.mem_of_getElem? (i := 0) rfl))
    have Fw94 : Fld Z h94 a "com/example/object_access_rules/objectaccessrules/Result" "below" "Lcom/example/object_access_rules/objectaccessrules/Result;" .null := Fld.same W94 cx93
    refine own_via (S' := T94.setTop (mkF m 135 #[.val (.ref a), .val (.ref d), .val (.ref sc), .val (.ref ms), .val .null, .val .null] [])) st94 ?_
    have cx99 : Fld Z h94 a "com/example/object_access_rules/objectaccessrules/Result" "decision" "Lcom/example/object_access_rules/objectaccessrules/Decision;" (.ref d) := (Fld.other W94 (Fld.other W87 (Fld.other W46 ((Fld.other W29 (Fw13.ext E18) (Or.inr (slot_ne (Or.inr (wd45 hw)) (Or.inr (wd50 hw)) (by decide) (t := (.object "com/example/object_access_rules/objectaccessrules/Decision")) (t' := (.object "com/example/object_access_rules/objectaccessrules/StatusCode")) (by decide) (by decide)))).ext E34) (Or.inr (slot_ne (Or.inr (wd45 hw)) (Or.inr (wd55 hw)) (by decide) (t := (.object "com/example/object_access_rules/objectaccessrules/Decision")) (t' := (.object "java/lang/String")) (by decide) (by decide)))) (Or.inr (slot_ne (Or.inr (wd45 hw)) (Or.inr (wd66 hw)) (by decide) (t := (.object "com/example/object_access_rules/objectaccessrules/Decision")) (t' := (.object "java/lang/String")) (by decide) (by decide)))) (Or.inr (slot_ne (Or.inr (wd45 hw)) (Or.inr (wd68 hw)) (by decide) (t := (.object "com/example/object_access_rules/objectaccessrules/Decision")) (t' := (.object "com/example/object_access_rules/objectaccessrules/Result")) (by decide) (by decide))))
    have cx100 : Fld Z h94 a "com/example/object_access_rules/objectaccessrules/Result" "status" "Lcom/example/object_access_rules/objectaccessrules/StatusCode;" (.ref sc) := (Fld.other W94 (Fld.other W87 (Fld.other W46 (Fw29.ext E34) (Or.inr (slot_ne (Or.inr (wd50 hw)) (Or.inr (wd55 hw)) (by decide) (t := (.object "com/example/object_access_rules/objectaccessrules/StatusCode")) (t' := (.object "java/lang/String")) (by decide) (by decide)))) (Or.inr (slot_ne (Or.inr (wd50 hw)) (Or.inr (wd66 hw)) (by decide) (t := (.object "com/example/object_access_rules/objectaccessrules/StatusCode")) (t' := (.object "java/lang/String")) (by decide) (by decide)))) (Or.inr (slot_ne (Or.inr (wd50 hw)) (Or.inr (wd68 hw)) (by decide) (t := (.object "com/example/object_access_rules/objectaccessrules/StatusCode")) (t' := (.object "com/example/object_access_rules/objectaccessrules/Result")) (by decide) (by decide))))
    have cx101 : Fld Z h94 a "com/example/object_access_rules/objectaccessrules/Result" "message" "Ljava/lang/String;" (.ref ms) := (Fld.other W94 (Fld.other W87 Fw46 (Or.inr (slot_ne (Or.inr (wd55 hw)) (Or.inr (wd66 hw)) (by decide) (t := (.object "java/lang/String")) (t' := (.object "java/lang/String")) (by decide) (by decide)))) (Or.inr (slot_ne (Or.inr (wd55 hw)) (Or.inr (wd68 hw)) (by decide) (t := (.object "java/lang/String")) (t' := (.object "com/example/object_access_rules/objectaccessrules/Result")) (by decide) (by decide))))
    have cx102 : Fld Z h94 a "com/example/object_access_rules/objectaccessrules/Result" "step" "Ljava/lang/String;" .null := (Fld.other W94 Fw87 (Or.inr (slot_ne (Or.inr (wd66 hw)) (Or.inr (wd68 hw)) (by decide) (t := (.object "java/lang/String")) (t' := (.object "com/example/object_access_rules/objectaccessrules/Result")) (by decide) (by decide))))
    have RTR96 : CHr Z own_EL s.vm h0 T94.vm h94 := R96.trans (CHv.at X94 hZ hEL R96.1)
    have RXR96 : CHr Z own_EL s.vm s.heap T94.vm T94.heap := by rw [hh, e94]; exact RTR96
    refine own_retW (Q := Q_own_r5N Z a d sc ms tm km zl vsm wI wO h0 n0) (C := ({ frames := 1, cells := 6, slots := 96, locals := 14 } : Room).cells) (N := ({ frames := 1, cells := 6, slots := 96, locals := 14 } : Room).slots) X94 hS34 (by rw [e94]; omega) (v := none) (fun _ => rfl) Bd.notSynchronized ?_ RXR96 (by decide) (by decide) (fun fs hr => X94.returnOut hx Bd.returns (hb hby d5_135) hr)
    show Q_own_r5N Z a d sc ms tm km zl vsm wI wO h0 n0 _ T94.vm T94.heap _
    rw [e94]
    exact ⟨rfl, N94, K98, cx99, cx100, cx101, cx102, Fw94⟩
def Q_own_r5R (Z : State) (a : Addr) (d : Addr) (sc : Addr) (ms : Addr) (sp : Addr) (bl : Addr) (tm : Addr) (km : ClassId) (zl : Int32) (vsm : List Value) (wI : Addr) (wO : Addr) (h0 : Heap) (n0 : Nat) (v : Option Value) (vm : Vm) (h : Heap) (L : List Loc) : Prop := v = none ∧ Fr n0 L ∧ Keep h0 h [a] ∧ Fld Z h a "com/example/object_access_rules/objectaccessrules/Result" "decision" "Lcom/example/object_access_rules/objectaccessrules/Decision;" (.ref d) ∧ Fld Z h a "com/example/object_access_rules/objectaccessrules/Result" "status" "Lcom/example/object_access_rules/objectaccessrules/StatusCode;" (.ref sc) ∧ Fld Z h a "com/example/object_access_rules/objectaccessrules/Result" "message" "Ljava/lang/String;" (.ref ms) ∧ Fld Z h a "com/example/object_access_rules/objectaccessrules/Result" "step" "Ljava/lang/String;" (.ref sp) ∧ Fld Z h a "com/example/object_access_rules/objectaccessrules/Result" "below" "Lcom/example/object_access_rules/objectaccessrules/Result;" (.ref bl)
set_option maxRecDepth 65536 in
set_option maxHeartbeats 40000000 in
theorem own_r5R (l : Launch) (Z : State) (a0 : Array Value) (hw : ∀ d ∈ tables_1, d.before a0 Z = true) (ws : List Jvm.Cond) (a : Addr) (d : Addr) (sc : Addr) (ms : Addr) (sp : Addr) (bl : Addr) (tm : Addr) (km : ClassId) (zl : Int32) (vsm : List Value) (wI : Addr) (wO : Addr) (h0 : Heap) (n0 : Nat) (O0 : Old Z n0 h0) (zf_S_com_example_object_access_rules_objectaccessrules_Decision_INDETERMINATE : Sta Z Z.heap "com/example/object_access_rules/objectaccessrules/Decision" "INDETERMINATE" "Lcom/example/object_access_rules/objectaccessrules/Decision;" (.ref wI)) (zf_S_com_example_object_access_rules_objectaccessrules_StatusCode_OK : Sta Z Z.heap "com/example/object_access_rules/objectaccessrules/StatusCode" "OK" "Lcom/example/object_access_rules/objectaccessrules/StatusCode;" (.ref wO)) (f0_E_a : Exa Z h0 a "com/example/object_access_rules/objectaccessrules/Result") (f0_F_a_decision : Fld Z h0 a "com/example/object_access_rules/objectaccessrules/Result" "decision" "Lcom/example/object_access_rules/objectaccessrules/Decision;" .null) (f0_F_a_status : Fld Z h0 a "com/example/object_access_rules/objectaccessrules/Result" "status" "Lcom/example/object_access_rules/objectaccessrules/StatusCode;" .null) (f0_F_a_message : Fld Z h0 a "com/example/object_access_rules/objectaccessrules/Result" "message" "Ljava/lang/String;" .null) (f0_F_a_step : Fld Z h0 a "com/example/object_access_rules/objectaccessrules/Result" "step" "Ljava/lang/String;" .null) (f0_F_a_below : Fld Z h0 a "com/example/object_access_rules/objectaccessrules/Result" "below" "Lcom/example/object_access_rules/objectaccessrules/Result;" .null) (f0_E_d : Exa Z h0 d "com/example/object_access_rules/objectaccessrules/Decision") (f0_E_sc : Exa Z h0 sc "com/example/object_access_rules/objectaccessrules/StatusCode") (f0_E_ms : Exa Z h0 ms "java/lang/String") (f0_F_ms_value : Fld Z h0 ms "java/lang/String" "value" "[B" (.ref tm)) (f0_A_tm : Arv Z h0 tm km .byte zl vsm (.int (0 : Int32))) (g_a : n0 ≤ a) (hcons : (d = wI ∧ ¬ (sc = wO)) ∨ (¬ (d = wI) ∧ sc = wO ∧ zl = (0 : Int32))) :
    MetFree l mt2 (head1 (Jvm.Cond.code mt2 prog_37_method_3_code 6 none :: ws) ({ frames := 1, cells := 6, slots := 96, locals := 14 } : Room)) (fun aq U => aq = #[(.ref a), (.ref d), (.ref sc), (.ref ms), (.ref sp), (.ref bl)] ∧ Z.Warmed39 U.vm ∧ U.heap = h0 ∧ CHv Z own_EL U.vm h0 ∧ ∀ x ∈ ([] : List Addr), Safe Z own_EL U.vm h0 x) (fun _ _ _ _ _ => True) (fun _ U o U' => ∃ v L, o = .returned v ∧ Q_own_r5R Z a d sc ms sp bl tm km zl vsm wI wO h0 n0 v U'.vm U'.heap L ∧ CHr Z own_EL U.vm U.heap U'.vm U'.heap ∧ ReturnedEndW U o U' L ({ frames := 1, cells := 6, slots := 96, locals := 14 } : Room).cells ({ frames := 1, cells := 6, slots := 96, locals := 14 } : Room).slots) := by
  refine MetFree.of_bodySF (plainFor_of_name pn_com_example_object_access_rules_objectaccessrules_Result) hisR ?_
  intro p e s m args below meth c s₁ Bd hml0 hP hK
  obtain ⟨rfl, hZ, hh, hCH, hSL⟩ := hP
  have hx := Bd.exec
  have hby := Bd.bytes
  have hml : c.maxLocals = 6 := hml0
  have hown : s.vm.findClass "com/example/object_access_rules/objectaccessrules/Result" = some m.cls := findClass_of_methodNamed Bd.named
  have hnm := (name_of_methodNamed Bd.named Bd.method).1
  have X0 : Stand p l e ({ frames := 1, cells := 6, slots := 96, locals := 14 } : Room) (s.setVm s.vm) m #[(.ref a), (.ref d), (.ref sc), (.ref ms), (.ref sp), (.ref bl)] below meth c s₁ [] 0 0 := Stand.of_body Bd
  have e0 : s₁.heap = h0 := by rw [← hh, Bd.state]; rfl
  have N0 := Fr.nil n0
  have zO := O0.1
  have zO2 := O0.2.1
  have fl_E_a : h0.size > a := f0_E_a.lt
  have fl_F_a_decision : h0.size > a := f0_F_a_decision.lt
  have fl_F_a_status : h0.size > a := f0_F_a_status.lt
  have fl_F_a_message : h0.size > a := f0_F_a_message.lt
  have fl_F_a_step : h0.size > a := f0_F_a_step.lt
  have fl_F_a_below : h0.size > a := f0_F_a_below.lt
  have fl_E_d : h0.size > d := f0_E_d.lt
  have fl_E_sc : h0.size > sc := f0_E_sc.lt
  have fl_E_ms : h0.size > ms := f0_E_ms.lt
  have fl_F_ms_value : h0.size > ms := f0_F_ms_value.lt
  have fl_A_tm : h0.size > tm := f0_A_tm.lt
  refine own_open (own_via (S' := s₁.setTop (mkF m 0 #[.val (.ref a), .val (.ref d), .val (.ref sc), .val (.ref ms), .val (.ref sp), .val (.ref bl)] [])) (fun t k => castTop (ef_own_r5R m a d sc ms sp bl) k) ?_)
  have hEL := own_EW hw
  have hS0 : s.Since s.vm h0.size := (State.WarmedH.refl s).since _
  have R0 : CHr Z own_EL s.vm h0 s.vm h0 := CHr.refl hCH
  have K0 : Keep h0 h0 [a] := Keep.refl _ _
  have ne_a_d : a ≠ d := Exa.ne f0_E_a f0_E_d (by decide)
  have ne_a_sc : a ≠ sc := Exa.ne f0_E_a f0_E_sc (by decide)
  have ne_a_ms : a ≠ ms := Exa.ne f0_E_a f0_E_ms (by decide)
  have ne_a_tm : a ≠ tm := Exa.neArv f0_E_a f0_A_tm (wd2 hw)
  have ne_d_sc : d ≠ sc := Exa.ne f0_E_d f0_E_sc (by decide)
  have ne_d_ms : d ≠ ms := Exa.ne f0_E_d f0_E_ms (by decide)
  have ne_sc_ms : sc ≠ ms := Exa.ne f0_E_sc f0_E_ms (by decide)
  have ne_ms_tm : ms ≠ tm := Exa.neArv f0_E_ms f0_A_tm (wd22 hw)
  refine own_via (S' := s₁.setTop (mkF m 1 #[.val (.ref a), .val (.ref d), .val (.ref sc), .val (.ref ms), .val (.ref sp), .val (.ref bl)] [(.ref a)])) (fun t k => XS.aloadN X0.here hx rfl (hb hby d5_0) rfl rfl k) ?_
  obtain ⟨T1, X1, e1, st1⟩ := initO X0 hx hZ hown (wd34 hw) (wd35 hw) (wd36 hw) e0 (g := (mkF m 1 #[.val (.ref a), .val (.ref d), .val (.ref sc), .val (.ref ms), .val (.ref sp), .val (.ref bl)] [(.ref a)])) rfl (by rw [hml]; rfl) rfl (hb hby d5_1) (by decide) (W := 0) (by show 2 * 0 + _ ≤ _; exact Nat.le_of_eq rfl) (by decide)
  refine own_via (S' := T1.setTop (mkF m 4 #[.val (.ref a), .val (.ref d), .val (.ref sc), .val (.ref ms), .val (.ref sp), .val (.ref bl)] [])) st1 ?_
  refine own_via (S' := T1.setTop (mkF m 5 #[.val (.ref a), .val (.ref d), .val (.ref sc), .val (.ref ms), .val (.ref sp), .val (.ref bl)] [(.ref a)])) (fun t k => XS.aloadN X1.here hx rfl (hb hby d5_4) rfl rfl k) ?_
  refine own_via (S' := T1.setTop (mkF m 6 #[.val (.ref a), .val (.ref d), .val (.ref sc), .val (.ref ms), .val (.ref sp), .val (.ref bl)] [(.ref d), (.ref a)])) (fun t k => XS.aloadN X1.here hx rfl (hb hby d5_5) rfl rfl k) ?_
  obtain ⟨b2, T2, h2, kk2, t2, kb2, X2, e2, E2, hS2, hk2, hZ, hown, f2_0, f2_1, f2_2, f2_3, lta2, ltb2, R2q, hLit2, hsn2, st2⟩ := ldcCH X1 hx hZ hown (wd37 hw) (own_wS hw) e1 hS0 (by omega) hEL (List.mem_of_getElem? (i := 0) rfl) R0.1 (vs := [(.int (100 : Int32)), (.int (101 : Int32)), (.int (99 : Int32)), (.int (105 : Int32)), (.int (115 : Int32)), (.int (105 : Int32)), (.int (111 : Int32)), (.int (110 : Int32))]) (z := (8 : Int32)) ⟨by decide, rfl⟩ (by decide) rfl (g := (mkF m 6 #[.val (.ref a), .val (.ref d), .val (.ref sc), .val (.ref ms), .val (.ref sp), .val (.ref bl)] [(.ref d), (.ref a)])) rfl (hb hby d5_6) (n := 32) (by decide) (by decide) (by decide) (by decide)
  have sz3 : h0.size ≤ h2.size := E2.1
  have O4 : Old Z n0 h2 := O0.ext E2
  have R5 : CHr Z own_EL s.vm h0 T2.vm h2 := R0.trans R2q
  have K6 : Keep h0 h2 [a] := K0.ext E2
  have lt_b2 : h2.size > b2 := lta2
  have lt_t2 : h2.size > t2 := ltb2
  have cx7 : Exa Z h2 a "com/example/object_access_rules/objectaccessrules/Result" := (f0_E_a.ext E2)
  have ne_a_b2 : a ≠ b2 := (hsn2 _ (Safe.exa hZ.alike cx7 (by decide) (by decide))).1
  have ne_a_t2 : a ≠ t2 := (hsn2 _ (Safe.exa hZ.alike cx7 (by decide) (by decide))).2
  have cx8 : Exa Z h2 d "com/example/object_access_rules/objectaccessrules/Decision" := (f0_E_d.ext E2)
  have ne_d_b2 : d ≠ b2 := (hsn2 _ (Safe.exa hZ.alike cx8 (by decide) (by decide))).1
  have ne_d_t2 : d ≠ t2 := (hsn2 _ (Safe.exa hZ.alike cx8 (by decide) (by decide))).2
  have cx9 : Exa Z h2 sc "com/example/object_access_rules/objectaccessrules/StatusCode" := (f0_E_sc.ext E2)
  have ne_sc_b2 : sc ≠ b2 := (hsn2 _ (Safe.exa hZ.alike cx9 (by decide) (by decide))).1
  have ne_sc_t2 : sc ≠ t2 := (hsn2 _ (Safe.exa hZ.alike cx9 (by decide) (by decide))).2
  refine own_via (S' := T2.setTop (mkF m 8 #[.val (.ref a), .val (.ref d), .val (.ref sc), .val (.ref ms), .val (.ref sp), .val (.ref bl)] [(.ref b2), (.ref d), (.ref a)])) st2 ?_
  obtain ⟨_, _, ⟨T10, Lp10, kp10, np10⟩, -, X10, ⟨Lc10, hQ10, l10, y10, z10⟩, st10⟩ := Jvm.LawKit.callS X2 hx (y := mt0) hown (mvT hZ (wd38 hw)) (mvT hZ (wd39 hw)) (mvT hZ (wd40 hw)) (mvT hZ (wd41 hw)) (by decide) (backOf (W := 1) (own_rnn l Z a0 hw [] d b2 h2 n0 O4) hZ (wd41 hw) (wd40 hw) (by decide) (by decide)) (g := (mkF m 8 #[.val (.ref a), .val (.ref d), .val (.ref sc), .val (.ref ms), .val (.ref sp), .val (.ref bl)] [(.ref b2), (.ref d), (.ref a)])) rfl (by rw [hml]; rfl) (argsL := [(.ref d), (.ref b2)]) (rest := [(.ref a)]) (lenOf pd__Ljava_lang_Object_Ljava_lang_String__Ljava_lang_Object__5105 rfl) rfl (by show 2 * 0 + _ ≤ _; exact Nat.le_of_eq rfl) (hb hby d5_8) (fun _ _ => ⟨rfl, e2, (by decide : 2 + 0 ≤ _), (by decide : 36 + 0 ≤ _)⟩)
  dsimp only [Pt.U, Pt.locs, Pt.cells, Pt.slots] at X10 l10 y10 z10 st10 hQ10
  subst Lp10 kp10 np10
  obtain ⟨rfl, rfl, e10⟩ := hQ10
  try rw [List.append_nil] at X10
  refine own_via (S' := T10.setTop (mkF m 11 #[.val (.ref a), .val (.ref d), .val (.ref sc), .val (.ref ms), .val (.ref sp), .val (.ref bl)] [(.ref d), (.ref a)])) st10 ?_
  obtain ⟨T11, X11, e11, st11⟩ := castY X10 hx hZ hown (wd42 hw) e10 (Ins.self cx8) (g := (mkF m 11 #[.val (.ref a), .val (.ref d), .val (.ref sc), .val (.ref ms), .val (.ref sp), .val (.ref bl)] [(.ref d), (.ref a)])) rfl rfl (hb hby d5_11)
  refine own_via (S' := T11.setTop (mkF m 14 #[.val (.ref a), .val (.ref d), .val (.ref sc), .val (.ref ms), .val (.ref sp), .val (.ref bl)] [(.ref d), (.ref a)])) st11 ?_
  have cx12 : Fld Z h2 a "com/example/object_access_rules/objectaccessrules/Result" "decision" "Lcom/example/object_access_rules/objectaccessrules/Decision;" .null := (f0_F_a_decision.ext E2)
  obtain ⟨T13, h13, X13, e13, W13, st13⟩ := putF X11 hx hZ hown (host := "") (Or.inl (wd44 hw)) Via.refl e11 cx12 cx7 (Or.inr ⟨(wd45 hw), rfl, hnm⟩) (wd2 hw) (ty := (.object "com/example/object_access_rules/objectaccessrules/Decision")) (by decide) rfl rfl (g := (mkF m 14 #[.val (.ref a), .val (.ref d), .val (.ref sc), .val (.ref ms), .val (.ref sp), .val (.ref bl)] [(.ref d), (.ref a)])) rfl rfl (hb hby d5_14)
  have sf13 : Safe Z own_EL T2.vm h2 a := (Safe.exa hZ.alike cx7 (by decide) (by decide))
  have sz14 : h2.size ≤ h13.size := Nat.le_of_eq W13.size.symm
  have R15 : CHr Z own_EL s.vm h0 T2.vm h13 := R5.trans (CHr.wr W13 sf13 R5.1)
  have O16 : Old Z n0 h13 := O4.wr W13 (by omega : n0 ≤ a)
  have N13 := Fr.snoc X13 N0 (by omega : n0 ≤ a)
  have K17 : Keep h0 h13 [a] := K6.wr W13 (Or.inl (List.mem_of_getElem? (i := 0) rfl))
  have Fw13 : Fld Z h13 a "com/example/object_access_rules/objectaccessrules/Result" "decision" "Lcom/example/object_access_rules/objectaccessrules/Decision;" (.ref d) := Fld.same W13 cx12
  refine own_via (S' := T13.setTop (mkF m 17 #[.val (.ref a), .val (.ref d), .val (.ref sc), .val (.ref ms), .val (.ref sp), .val (.ref bl)] [])) st13 ?_
  refine own_via (S' := T13.setTop (mkF m 18 #[.val (.ref a), .val (.ref d), .val (.ref sc), .val (.ref ms), .val (.ref sp), .val (.ref bl)] [(.ref a)])) (fun t k => XS.aloadN X13.here hx rfl (hb hby d5_17) rfl rfl k) ?_
  refine own_via (S' := T13.setTop (mkF m 19 #[.val (.ref a), .val (.ref d), .val (.ref sc), .val (.ref ms), .val (.ref sp), .val (.ref bl)] [(.ref sc), (.ref a)])) (fun t k => XS.aloadN X13.here hx rfl (hb hby d5_18) rfl rfl k) ?_
  obtain ⟨b18, T18, h18, kk18, t18, kb18, X18, e18, E18, hS18, hk18, hZ, hown, f18_0, f18_1, f18_2, f18_3, lta18, ltb18, R18q, hLit18, hsn18, st18⟩ := ldcCH X13 hx hZ hown (wd46 hw) (own_wS hw) e13 hS2 (by omega) hEL (List.mem_of_getElem? (i := 1) rfl) R15.1 (vs := [(.int (115 : Int32)), (.int (116 : Int32)), (.int (97 : Int32)), (.int (116 : Int32)), (.int (117 : Int32)), (.int (115 : Int32))]) (z := (6 : Int32)) ⟨by decide, rfl⟩ (by decide) rfl (g := (mkF m 19 #[.val (.ref a), .val (.ref d), .val (.ref sc), .val (.ref ms), .val (.ref sp), .val (.ref bl)] [(.ref sc), (.ref a)])) rfl (hb hby d5_19) (n := 24) (by decide) (by decide) (by decide) (by decide)
  have sz19 : h13.size ≤ h18.size := E18.1
  have O20 : Old Z n0 h18 := O16.ext E18
  have R21 : CHr Z own_EL s.vm h0 T18.vm h18 := R15.trans R18q
  have K22 : Keep h0 h18 [a] := K17.ext E18
  have lt_b18 : h18.size > b18 := lta18
  have lt_t18 : h18.size > t18 := ltb18
  have cx23 : Exa Z h18 a "com/example/object_access_rules/objectaccessrules/Result" := ((Exa.wr W13 cx7).ext E18)
  have ne_a_b18 : a ≠ b18 := (hsn18 _ (Safe.exa hZ.alike cx23 (by decide) (by decide))).1
  have ne_a_t18 : a ≠ t18 := (hsn18 _ (Safe.exa hZ.alike cx23 (by decide) (by decide))).2
  have cx24 : Exa Z h18 d "com/example/object_access_rules/objectaccessrules/Decision" := ((Exa.wr W13 cx8).ext E18)
  have ne_d_b18 : d ≠ b18 := (hsn18 _ (Safe.exa hZ.alike cx24 (by decide) (by decide))).1
  have ne_d_t18 : d ≠ t18 := (hsn18 _ (Safe.exa hZ.alike cx24 (by decide) (by decide))).2
  have cx25 : Exa Z h18 sc "com/example/object_access_rules/objectaccessrules/StatusCode" := ((Exa.wr W13 cx9).ext E18)
  have ne_sc_b18 : sc ≠ b18 := (hsn18 _ (Safe.exa hZ.alike cx25 (by decide) (by decide))).1
  have ne_sc_t18 : sc ≠ t18 := (hsn18 _ (Safe.exa hZ.alike cx25 (by decide) (by decide))).2
  refine own_via (S' := T18.setTop (mkF m 21 #[.val (.ref a), .val (.ref d), .val (.ref sc), .val (.ref ms), .val (.ref sp), .val (.ref bl)] [(.ref b18), (.ref sc), (.ref a)])) st18 ?_
  obtain ⟨_, _, ⟨T26, Lp26, kp26, np26⟩, -, X26, ⟨Lc26, hQ26, l26, y26, z26⟩, st26⟩ := Jvm.LawKit.callS X18 hx (y := mt0) hown (mvT hZ (wd38 hw)) (mvT hZ (wd39 hw)) (mvT hZ (wd40 hw)) (mvT hZ (wd41 hw)) (by decide) (backOf (W := 1) (own_rnn l Z a0 hw [] sc b18 h18 n0 O20) hZ (wd41 hw) (wd40 hw) (by decide) (by decide)) (g := (mkF m 21 #[.val (.ref a), .val (.ref d), .val (.ref sc), .val (.ref ms), .val (.ref sp), .val (.ref bl)] [(.ref b18), (.ref sc), (.ref a)])) rfl (by rw [hml]; rfl) (argsL := [(.ref sc), (.ref b18)]) (rest := [(.ref a)]) (lenOf pd__Ljava_lang_Object_Ljava_lang_String__Ljava_lang_Object__5105 rfl) rfl (by show 2 * 0 + _ ≤ _; exact Nat.le_of_eq rfl) (hb hby d5_21) (fun _ _ => ⟨rfl, e18, (by decide : 4 + 0 ≤ _), (by decide : 64 + 0 ≤ _)⟩)
  dsimp only [Pt.U, Pt.locs, Pt.cells, Pt.slots] at X26 l26 y26 z26 st26 hQ26
  subst Lp26 kp26 np26
  obtain ⟨rfl, rfl, e26⟩ := hQ26
  try rw [List.append_nil] at X26
  refine own_via (S' := T26.setTop (mkF m 24 #[.val (.ref a), .val (.ref d), .val (.ref sc), .val (.ref ms), .val (.ref sp), .val (.ref bl)] [(.ref sc), (.ref a)])) st26 ?_
  obtain ⟨T27, X27, e27, st27⟩ := castY X26 hx hZ hown (wd47 hw) e26 (Ins.self cx25) (g := (mkF m 24 #[.val (.ref a), .val (.ref d), .val (.ref sc), .val (.ref ms), .val (.ref sp), .val (.ref bl)] [(.ref sc), (.ref a)])) rfl rfl (hb hby d5_24)
  refine own_via (S' := T27.setTop (mkF m 27 #[.val (.ref a), .val (.ref d), .val (.ref sc), .val (.ref ms), .val (.ref sp), .val (.ref bl)] [(.ref sc), (.ref a)])) st27 ?_
  have cx28 : Fld Z h18 a "com/example/object_access_rules/objectaccessrules/Result" "status" "Lcom/example/object_access_rules/objectaccessrules/StatusCode;" .null := ((Fld.other W13 (f0_F_a_status.ext E2) (Or.inr (slot_ne (Or.inr (wd50 hw)) (Or.inr (wd45 hw)) (by decide) (t := (.object "com/example/object_access_rules/objectaccessrules/StatusCode")) (t' := (.object "com/example/object_access_rules/objectaccessrules/Decision")) (by decide) (by decide)))).ext E18)
  obtain ⟨T29, h29, X29, e29, W29, st29⟩ := putF X27 hx hZ hown (host := "") (Or.inl (wd49 hw)) Via.refl e27 cx28 cx23 (Or.inr ⟨(wd50 hw), rfl, hnm⟩) (wd2 hw) (ty := (.object "com/example/object_access_rules/objectaccessrules/StatusCode")) (by decide) rfl rfl (g := (mkF m 27 #[.val (.ref a), .val (.ref d), .val (.ref sc), .val (.ref ms), .val (.ref sp), .val (.ref bl)] [(.ref sc), (.ref a)])) rfl rfl (hb hby d5_27)
  have sf29 : Safe Z own_EL T18.vm h18 a := (Safe.exa hZ.alike cx23 (by decide) (by decide))
  have sz30 : h18.size ≤ h29.size := Nat.le_of_eq W29.size.symm
  have R31 : CHr Z own_EL s.vm h0 T18.vm h29 := R21.trans (CHr.wr W29 sf29 R21.1)
  have O32 : Old Z n0 h29 := O20.wr W29 (by omega : n0 ≤ a)
  have N29 := Fr.snoc X29 N13 (by omega : n0 ≤ a)
  have K33 : Keep h0 h29 [a] := K22.wr W29 (Or.inl (List.mem_of_getElem? (i := 0) rfl))
  have Fw29 : Fld Z h29 a "com/example/object_access_rules/objectaccessrules/Result" "status" "Lcom/example/object_access_rules/objectaccessrules/StatusCode;" (.ref sc) := Fld.same W29 cx28
  refine own_via (S' := T29.setTop (mkF m 30 #[.val (.ref a), .val (.ref d), .val (.ref sc), .val (.ref ms), .val (.ref sp), .val (.ref bl)] [])) st29 ?_
  refine own_via (S' := T29.setTop (mkF m 31 #[.val (.ref a), .val (.ref d), .val (.ref sc), .val (.ref ms), .val (.ref sp), .val (.ref bl)] [(.ref a)])) (fun t k => XS.aloadN X29.here hx rfl (hb hby d5_30) rfl rfl k) ?_
  refine own_via (S' := T29.setTop (mkF m 32 #[.val (.ref a), .val (.ref d), .val (.ref sc), .val (.ref ms), .val (.ref sp), .val (.ref bl)] [(.ref ms), (.ref a)])) (fun t k => XS.aloadN X29.here hx rfl (hb hby d5_31) rfl rfl k) ?_
  obtain ⟨b34, T34, h34, kk34, t34, kb34, X34, e34, E34, hS34, hk34, hZ, hown, f34_0, f34_1, f34_2, f34_3, lta34, ltb34, R34q, hLit34, hsn34, st34⟩ := ldcCH X29 hx hZ hown (wd51 hw) (own_wS hw) e29 hS18 (by omega) hEL (List.mem_of_getElem? (i := 2) rfl) R31.1 (vs := [(.int (109 : Int32)), (.int (101 : Int32)), (.int (115 : Int32)), (.int (115 : Int32)), (.int (97 : Int32)), (.int (103 : Int32)), (.int (101 : Int32))]) (z := (7 : Int32)) ⟨by decide, rfl⟩ (by decide) rfl (g := (mkF m 32 #[.val (.ref a), .val (.ref d), .val (.ref sc), .val (.ref ms), .val (.ref sp), .val (.ref bl)] [(.ref ms), (.ref a)])) rfl (hb hby d5_32) (n := 28) (by decide) (by decide) (by decide) (by decide)
  have sz35 : h29.size ≤ h34.size := E34.1
  have O36 : Old Z n0 h34 := O32.ext E34
  have R37 : CHr Z own_EL s.vm h0 T34.vm h34 := R31.trans R34q
  have K38 : Keep h0 h34 [a] := K33.ext E34
  have lt_b34 : h34.size > b34 := lta34
  have lt_t34 : h34.size > t34 := ltb34
  have cx39 : Exa Z h34 a "com/example/object_access_rules/objectaccessrules/Result" := ((Exa.wr W29 cx23).ext E34)
  have ne_a_b34 : a ≠ b34 := (hsn34 _ (Safe.exa hZ.alike cx39 (by decide) (by decide))).1
  have ne_a_t34 : a ≠ t34 := (hsn34 _ (Safe.exa hZ.alike cx39 (by decide) (by decide))).2
  have cx40 : Exa Z h34 d "com/example/object_access_rules/objectaccessrules/Decision" := ((Exa.wr W29 cx24).ext E34)
  have ne_d_b34 : d ≠ b34 := (hsn34 _ (Safe.exa hZ.alike cx40 (by decide) (by decide))).1
  have ne_d_t34 : d ≠ t34 := (hsn34 _ (Safe.exa hZ.alike cx40 (by decide) (by decide))).2
  have cx41 : Exa Z h34 sc "com/example/object_access_rules/objectaccessrules/StatusCode" := ((Exa.wr W29 cx25).ext E34)
  have ne_sc_b34 : sc ≠ b34 := (hsn34 _ (Safe.exa hZ.alike cx41 (by decide) (by decide))).1
  have ne_sc_t34 : sc ≠ t34 := (hsn34 _ (Safe.exa hZ.alike cx41 (by decide) (by decide))).2
  refine own_via (S' := T34.setTop (mkF m 34 #[.val (.ref a), .val (.ref d), .val (.ref sc), .val (.ref ms), .val (.ref sp), .val (.ref bl)] [(.ref b34), (.ref ms), (.ref a)])) st34 ?_
  obtain ⟨_, _, ⟨T42, Lp42, kp42, np42⟩, -, X42, ⟨Lc42, hQ42, l42, y42, z42⟩, st42⟩ := Jvm.LawKit.callS X34 hx (y := mt0) hown (mvT hZ (wd38 hw)) (mvT hZ (wd39 hw)) (mvT hZ (wd40 hw)) (mvT hZ (wd41 hw)) (by decide) (backOf (W := 1) (own_rnn l Z a0 hw [] ms b34 h34 n0 O36) hZ (wd41 hw) (wd40 hw) (by decide) (by decide)) (g := (mkF m 34 #[.val (.ref a), .val (.ref d), .val (.ref sc), .val (.ref ms), .val (.ref sp), .val (.ref bl)] [(.ref b34), (.ref ms), (.ref a)])) rfl (by rw [hml]; rfl) (argsL := [(.ref ms), (.ref b34)]) (rest := [(.ref a)]) (lenOf pd__Ljava_lang_Object_Ljava_lang_String__Ljava_lang_Object__5105 rfl) rfl (by show 2 * 0 + _ ≤ _; exact Nat.le_of_eq rfl) (hb hby d5_34) (fun _ _ => ⟨rfl, e34, (by decide : 6 + 0 ≤ _), (by decide : 96 + 0 ≤ _)⟩)
  dsimp only [Pt.U, Pt.locs, Pt.cells, Pt.slots] at X42 l42 y42 z42 st42 hQ42
  subst Lp42 kp42 np42
  obtain ⟨rfl, rfl, e42⟩ := hQ42
  try rw [List.append_nil] at X42
  refine own_via (S' := T42.setTop (mkF m 37 #[.val (.ref a), .val (.ref d), .val (.ref sc), .val (.ref ms), .val (.ref sp), .val (.ref bl)] [(.ref ms), (.ref a)])) st42 ?_
  have cx43 : Exa Z h34 ms "java/lang/String" := ((Exa.wr W29 ((Exa.wr W13 (f0_E_ms.ext E2)).ext E18)).ext E34)
  obtain ⟨T44, X44, e44, st44⟩ := castY X42 hx hZ hown (wd52 hw) e42 (Ins.self cx43) (g := (mkF m 37 #[.val (.ref a), .val (.ref d), .val (.ref sc), .val (.ref ms), .val (.ref sp), .val (.ref bl)] [(.ref ms), (.ref a)])) rfl rfl (hb hby d5_37)
  refine own_via (S' := T44.setTop (mkF m 40 #[.val (.ref a), .val (.ref d), .val (.ref sc), .val (.ref ms), .val (.ref sp), .val (.ref bl)] [(.ref ms), (.ref a)])) st44 ?_
  have cx45 : Fld Z h34 a "com/example/object_access_rules/objectaccessrules/Result" "message" "Ljava/lang/String;" .null := ((Fld.other W29 ((Fld.other W13 (f0_F_a_message.ext E2) (Or.inr (slot_ne (Or.inr (wd55 hw)) (Or.inr (wd45 hw)) (by decide) (t := (.object "java/lang/String")) (t' := (.object "com/example/object_access_rules/objectaccessrules/Decision")) (by decide) (by decide)))).ext E18) (Or.inr (slot_ne (Or.inr (wd55 hw)) (Or.inr (wd50 hw)) (by decide) (t := (.object "java/lang/String")) (t' := (.object "com/example/object_access_rules/objectaccessrules/StatusCode")) (by decide) (by decide)))).ext E34)
  obtain ⟨T46, h46, X46, e46, W46, st46⟩ := putF X44 hx hZ hown (host := "") (Or.inl (wd54 hw)) Via.refl e44 cx45 cx39 (Or.inr ⟨(wd55 hw), rfl, hnm⟩) (wd2 hw) (ty := (.object "java/lang/String")) (by decide) rfl rfl (g := (mkF m 40 #[.val (.ref a), .val (.ref d), .val (.ref sc), .val (.ref ms), .val (.ref sp), .val (.ref bl)] [(.ref ms), (.ref a)])) rfl rfl (hb hby d5_40)
  have sf46 : Safe Z own_EL T34.vm h34 a := (Safe.exa hZ.alike cx39 (by decide) (by decide))
  have sz47 : h34.size ≤ h46.size := Nat.le_of_eq W46.size.symm
  have R48 : CHr Z own_EL s.vm h0 T34.vm h46 := R37.trans (CHr.wr W46 sf46 R37.1)
  have O49 : Old Z n0 h46 := O36.wr W46 (by omega : n0 ≤ a)
  have N46 := Fr.snoc X46 N29 (by omega : n0 ≤ a)
  have K50 : Keep h0 h46 [a] := K38.wr W46 (Or.inl (List.mem_of_getElem? (i := 0) rfl))
  have Fw46 : Fld Z h46 a "com/example/object_access_rules/objectaccessrules/Result" "message" "Ljava/lang/String;" (.ref ms) := Fld.same W46 cx45
  refine own_via (S' := T46.setTop (mkF m 43 #[.val (.ref a), .val (.ref d), .val (.ref sc), .val (.ref ms), .val (.ref sp), .val (.ref bl)] [])) st46 ?_
  refine own_via (S' := T46.setTop (mkF m 44 #[.val (.ref a), .val (.ref d), .val (.ref sc), .val (.ref ms), .val (.ref sp), .val (.ref bl)] [(.ref d)])) (fun t k => XS.aloadN X46.here hx rfl (hb hby d5_43) rfl rfl k) ?_
  have cx51 : Sta Z h46 "com/example/object_access_rules/objectaccessrules/Decision" "INDETERMINATE" "Lcom/example/object_access_rules/objectaccessrules/Decision;" (.ref wI) := zf_S_com_example_object_access_rules_objectaccessrules_Decision_INDETERMINATE.ext O49.2
  obtain ⟨T52, X52, e52, st52⟩ := getS2 X46 hx hZ hown (host := "") (Or.inl (wd56 hw)) Via.refl e46 cx51 (g := (mkF m 44 #[.val (.ref a), .val (.ref d), .val (.ref sc), .val (.ref ms), .val (.ref sp), .val (.ref bl)] [(.ref d)])) rfl (hb hby d5_44)
  refine own_via (S' := T52.setTop (mkF m 47 #[.val (.ref a), .val (.ref d), .val (.ref sc), .val (.ref ms), .val (.ref sp), .val (.ref bl)] [(.ref wI), (.ref d)])) st52 ?_
  by_cases hc47_53 : d = wI
  · -- yes
    refine own_via (S' := T52.setTop (mkF m 50 #[.val (.ref a), .val (.ref d), .val (.ref sc), .val (.ref ms), .val (.ref sp), .val (.ref bl)] [])) (fun t k => Jvm.RoadKit.acmp (g := (mkF m 47 #[.val (.ref a), .val (.ref d), .val (.ref sc), .val (.ref ms), .val (.ref sp), .val (.ref bl)] [(.ref wI), (.ref d)])) X52 hx rfl rfl rfl (pc0 := 47) (pc' := 50) (same := true) rfl (hb hby d5_47) rfl (decide_eq_true (congrArg Value.ref hc47_53)) (by decide) (by decide) k) ?_
    refine own_via (S' := T52.setTop (mkF m 51 #[.val (.ref a), .val (.ref d), .val (.ref sc), .val (.ref ms), .val (.ref sp), .val (.ref bl)] [(.int (1 : Int32))])) (fun t k => XS.iconst X52.here hx rfl (hb hby d5_50) k) ?_
    refine own_via (S' := T52.setTop (mkF m 55 #[.val (.ref a), .val (.ref d), .val (.ref sc), .val (.ref ms), .val (.ref sp), .val (.ref bl)] [(.int (1 : Int32))])) (fun t k => XS.goto X52.here hx rfl (pc0 := 51) (pc' := 55) rfl (hb hby d5_51) (by decide) (by decide) k) ?_
    refine own_via (S' := T52.setTop (mkF m 56 #[.val (.ref a), .val (.ref d), .val (.ref sc), .val (.ref ms), .val (.ref sp), .val (.ref bl)] [(.ref sc), (.int (1 : Int32))])) (fun t k => XS.aloadN X52.here hx rfl (hb hby d5_55) rfl rfl k) ?_
    have cx54 : Sta Z h46 "com/example/object_access_rules/objectaccessrules/StatusCode" "OK" "Lcom/example/object_access_rules/objectaccessrules/StatusCode;" (.ref wO) := zf_S_com_example_object_access_rules_objectaccessrules_StatusCode_OK.ext O49.2
    obtain ⟨T55, X55, e55, st55⟩ := getS2 X52 hx hZ hown (host := "") (Or.inl (wd58 hw)) Via.refl e52 cx54 (g := (mkF m 56 #[.val (.ref a), .val (.ref d), .val (.ref sc), .val (.ref ms), .val (.ref sp), .val (.ref bl)] [(.ref sc), (.int (1 : Int32))])) rfl (hb hby d5_56)
    refine own_via (S' := T55.setTop (mkF m 59 #[.val (.ref a), .val (.ref d), .val (.ref sc), .val (.ref ms), .val (.ref sp), .val (.ref bl)] [(.ref wO), (.ref sc), (.int (1 : Int32))])) st55 ?_
    have hc59_56 : ¬ (sc = wO) := by rcases hcons with q | q; exact q.2; exact absurd hc47_53 q.1
    refine own_via (S' := T55.setTop (mkF m 66 #[.val (.ref a), .val (.ref d), .val (.ref sc), .val (.ref ms), .val (.ref sp), .val (.ref bl)] [(.int (1 : Int32))])) (fun t k => Jvm.RoadKit.acmp (g := (mkF m 59 #[.val (.ref a), .val (.ref d), .val (.ref sc), .val (.ref ms), .val (.ref sp), .val (.ref bl)] [(.ref wO), (.ref sc), (.int (1 : Int32))])) X55 hx rfl rfl rfl (pc0 := 59) (pc' := 66) (same := false) rfl (hb hby d5_59) rfl (decide_eq_false fun q => hc59_56 (Value.ref.inj q)) (by decide) (by decide) k) ?_
    refine own_via (S' := T55.setTop (mkF m 67 #[.val (.ref a), .val (.ref d), .val (.ref sc), .val (.ref ms), .val (.ref sp), .val (.ref bl)] [(.int (0 : Int32)), (.int (1 : Int32))])) (fun t k => XS.iconst X55.here hx rfl (hb hby d5_66) k) ?_
    refine own_via (S' := T55.setTop (mkF m 91 #[.val (.ref a), .val (.ref d), .val (.ref sc), .val (.ref ms), .val (.ref sp), .val (.ref bl)] [])) (fun t k => XS.icmpYes X55.here hx rfl (pc0 := 67) (pc' := 91) rfl (hb hby d5_67) rfl (feq (by decide : ¬ ((1 : Int32) = (0 : Int32)))).2 (by decide) (by decide) k) ?_
    refine own_via (S' := T55.setTop (mkF m 92 #[.val (.ref a), .val (.ref d), .val (.ref sc), .val (.ref ms), .val (.ref sp), .val (.ref bl)] [(.ref d)])) (fun t k => XS.aloadN X55.here hx rfl (hb hby d5_91) rfl rfl k) ?_
    obtain ⟨T57, X57, e57, st57⟩ := getS2 X55 hx hZ hown (host := "") (Or.inl (wd56 hw)) Via.refl e55 cx51 (g := (mkF m 92 #[.val (.ref a), .val (.ref d), .val (.ref sc), .val (.ref ms), .val (.ref sp), .val (.ref bl)] [(.ref d)])) rfl (hb hby d5_92)
    refine own_via (S' := T57.setTop (mkF m 95 #[.val (.ref a), .val (.ref d), .val (.ref sc), .val (.ref ms), .val (.ref sp), .val (.ref bl)] [(.ref wI), (.ref d)])) st57 ?_
    refine own_via (S' := T57.setTop (mkF m 123 #[.val (.ref a), .val (.ref d), .val (.ref sc), .val (.ref ms), .val (.ref sp), .val (.ref bl)] [])) (fun t k => Jvm.RoadKit.acmp (g := (mkF m 95 #[.val (.ref a), .val (.ref d), .val (.ref sc), .val (.ref ms), .val (.ref sp), .val (.ref bl)] [(.ref wI), (.ref d)])) X57 hx rfl rfl rfl (pc0 := 95) (pc' := 123) (same := true) rfl (hb hby d5_95) rfl (decide_eq_true (congrArg Value.ref hc47_53)) (by decide) (by decide) k) ?_
    refine own_via (S' := T57.setTop (mkF m 124 #[.val (.ref a), .val (.ref d), .val (.ref sc), .val (.ref ms), .val (.ref sp), .val (.ref bl)] [(.ref a)])) (fun t k => XS.aloadN X57.here hx rfl (hb hby d5_123) rfl rfl k) ?_
    refine own_via (S' := T57.setTop (mkF m 126 #[.val (.ref a), .val (.ref d), .val (.ref sc), .val (.ref ms), .val (.ref sp), .val (.ref bl)] [(.ref sp), (.ref a)])) (fun t k => XS.aload X57.here hx rfl (hb hby d5_124) rfl rfl k) ?_
    have cx58 : Exa Z h46 a "com/example/object_access_rules/objectaccessrules/Result" := (Exa.wr W46 cx39)
    have cx59 : Fld Z h46 a "com/example/object_access_rules/objectaccessrules/Result" "step" "Ljava/lang/String;" .null := (Fld.other W46 ((Fld.other W29 ((Fld.other W13 (f0_F_a_step.ext E2) (Or.inr (slot_ne (Or.inr (wd66 hw)) (Or.inr (wd45 hw)) (by decide) (t := (.object "java/lang/String")) (t' := (.object "com/example/object_access_rules/objectaccessrules/Decision")) (by decide) (by decide)))).ext E18) (Or.inr (slot_ne (Or.inr (wd66 hw)) (Or.inr (wd50 hw)) (by decide) (t := (.object "java/lang/String")) (t' := (.object "com/example/object_access_rules/objectaccessrules/StatusCode")) (by decide) (by decide)))).ext E34) (Or.inr (slot_ne (Or.inr (wd66 hw)) (Or.inr (wd55 hw)) (by decide) (t := (.object "java/lang/String")) (t' := (.object "java/lang/String")) (by decide) (by decide))))
    obtain ⟨T60, h60, X60, e60, W60, st60⟩ := putF X57 hx hZ hown (host := "") (Or.inl (wd65 hw)) Via.refl e57 cx59 cx58 (Or.inr ⟨(wd66 hw), rfl, hnm⟩) (wd2 hw) (ty := (.object "java/lang/String")) (by decide) rfl rfl (g := (mkF m 126 #[.val (.ref a), .val (.ref d), .val (.ref sc), .val (.ref ms), .val (.ref sp), .val (.ref bl)] [(.ref sp), (.ref a)])) rfl rfl (hb hby d5_126)
    have sf60 : Safe Z own_EL T34.vm h46 a := (Safe.exa hZ.alike cx58 (by decide) (by decide))
    have sz61 : h46.size ≤ h60.size := Nat.le_of_eq W60.size.symm
    have R62 : CHr Z own_EL s.vm h0 T34.vm h60 := R48.trans (CHr.wr W60 sf60 R48.1)
    have O63 : Old Z n0 h60 := O49.wr W60 (by omega : n0 ≤ a)
    have N60 := Fr.snoc X60 N46 (by omega : n0 ≤ a)
    have K64 : Keep h0 h60 [a] := K50.wr W60 (Or.inl (List.mem_of_getElem? (i := 0) rfl))
    have Fw60 : Fld Z h60 a "com/example/object_access_rules/objectaccessrules/Result" "step" "Ljava/lang/String;" (.ref sp) := Fld.same W60 cx59
    refine own_via (S' := T60.setTop (mkF m 129 #[.val (.ref a), .val (.ref d), .val (.ref sc), .val (.ref ms), .val (.ref sp), .val (.ref bl)] [])) st60 ?_
    refine own_via (S' := T60.setTop (mkF m 130 #[.val (.ref a), .val (.ref d), .val (.ref sc), .val (.ref ms), .val (.ref sp), .val (.ref bl)] [(.ref a)])) (fun t k => XS.aloadN X60.here hx rfl (hb hby d5_129) rfl rfl k) ?_
    refine own_via (S' := T60.setTop (mkF m 132 #[.val (.ref a), .val (.ref d), .val (.ref sc), .val (.ref ms), .val (.ref sp), .val (.ref bl)] [(.ref bl), (.ref a)])) (fun t k => XS.aload X60.here hx rfl (hb hby d5_130) rfl rfl k) ?_
    have cx65 : Exa Z h60 a "com/example/object_access_rules/objectaccessrules/Result" := (Exa.wr W60 cx58)
    have cx66 : Fld Z h60 a "com/example/object_access_rules/objectaccessrules/Result" "below" "Lcom/example/object_access_rules/objectaccessrules/Result;" .null := (Fld.other W60 (Fld.other W46 ((Fld.other W29 ((Fld.other W13 (f0_F_a_below.ext E2) (Or.inr (slot_ne (Or.inr (wd68 hw)) (Or.inr (wd45 hw)) (by decide) (t := (.object "com/example/object_access_rules/objectaccessrules/Result")) (t' := (.object "com/example/object_access_rules/objectaccessrules/Decision")) (by decide) (by decide)))).ext E18) (Or.inr (slot_ne (Or.inr (wd68 hw)) (Or.inr (wd50 hw)) (by decide) (t := (.object "com/example/object_access_rules/objectaccessrules/Result")) (t' := (.object "com/example/object_access_rules/objectaccessrules/StatusCode")) (by decide) (by decide)))).ext E34) (Or.inr (slot_ne (Or.inr (wd68 hw)) (Or.inr (wd55 hw)) (by decide) (t := (.object "com/example/object_access_rules/objectaccessrules/Result")) (t' := (.object "java/lang/String")) (by decide) (by decide)))) (Or.inr (slot_ne (Or.inr (wd68 hw)) (Or.inr (wd66 hw)) (by decide) (t := (.object "com/example/object_access_rules/objectaccessrules/Result")) (t' := (.object "java/lang/String")) (by decide) (by decide))))
    obtain ⟨T67, h67, X67, e67, W67, st67⟩ := putF X60 hx hZ hown (host := "") (Or.inl (wd67 hw)) Via.refl e60 cx66 cx65 (Or.inr ⟨(wd68 hw), rfl, hnm⟩) (wd2 hw) (ty := (.object "com/example/object_access_rules/objectaccessrules/Result")) (by decide) rfl rfl (g := (mkF m 132 #[.val (.ref a), .val (.ref d), .val (.ref sc), .val (.ref ms), .val (.ref sp), .val (.ref bl)] [(.ref bl), (.ref a)])) rfl rfl (hb hby d5_132)
    have sf67 : Safe Z own_EL T34.vm h60 a := (Safe.exa hZ.alike cx65 (by decide) (by decide))
    have sz68 : h60.size ≤ h67.size := Nat.le_of_eq W67.size.symm
    have R69 : CHr Z own_EL s.vm h0 T34.vm h67 := R62.trans (CHr.wr W67 sf67 R62.1)
    have O70 : Old Z n0 h67 := O63.wr W67 (by omega : n0 ≤ a)
    have N67 := Fr.snoc X67 N60 (by omega : n0 ≤ a)
    have K71 : Keep h0 h67 [a] := K64.wr W67 (Or.inl (List.mem_of_getElem? (i := 0) rfl))
    have Fw67 : Fld Z h67 a "com/example/object_access_rules/objectaccessrules/Result" "below" "Lcom/example/object_access_rules/objectaccessrules/Result;" (.ref bl) := Fld.same W67 cx66
    refine own_via (S' := T67.setTop (mkF m 135 #[.val (.ref a), .val (.ref d), .val (.ref sc), .val (.ref ms), .val (.ref sp), .val (.ref bl)] [])) st67 ?_
    have cx72 : Fld Z h67 a "com/example/object_access_rules/objectaccessrules/Result" "decision" "Lcom/example/object_access_rules/objectaccessrules/Decision;" (.ref d) := (Fld.other W67 (Fld.other W60 (Fld.other W46 ((Fld.other W29 (Fw13.ext E18) (Or.inr (slot_ne (Or.inr (wd45 hw)) (Or.inr (wd50 hw)) (by decide) (t := (.object "com/example/object_access_rules/objectaccessrules/Decision")) (t' := (.object "com/example/object_access_rules/objectaccessrules/StatusCode")) (by decide) (by decide)))).ext E34) (Or.inr (slot_ne (Or.inr (wd45 hw)) (Or.inr (wd55 hw)) (by decide) (t := (.object "com/example/object_access_rules/objectaccessrules/Decision")) (t' := (.object "java/lang/String")) (by decide) (by decide)))) (Or.inr (slot_ne (Or.inr (wd45 hw)) (Or.inr (wd66 hw)) (by decide) (t := (.object "com/example/object_access_rules/objectaccessrules/Decision")) (t' := (.object "java/lang/String")) (by decide) (by decide)))) (Or.inr (slot_ne (Or.inr (wd45 hw)) (Or.inr (wd68 hw)) (by decide) (t := (.object "com/example/object_access_rules/objectaccessrules/Decision")) (t' := (.object "com/example/object_access_rules/objectaccessrules/Result")) (by decide) (by decide))))
    have cx73 : Fld Z h67 a "com/example/object_access_rules/objectaccessrules/Result" "status" "Lcom/example/object_access_rules/objectaccessrules/StatusCode;" (.ref sc) := (Fld.other W67 (Fld.other W60 (Fld.other W46 (Fw29.ext E34) (Or.inr (slot_ne (Or.inr (wd50 hw)) (Or.inr (wd55 hw)) (by decide) (t := (.object "com/example/object_access_rules/objectaccessrules/StatusCode")) (t' := (.object "java/lang/String")) (by decide) (by decide)))) (Or.inr (slot_ne (Or.inr (wd50 hw)) (Or.inr (wd66 hw)) (by decide) (t := (.object "com/example/object_access_rules/objectaccessrules/StatusCode")) (t' := (.object "java/lang/String")) (by decide) (by decide)))) (Or.inr (slot_ne (Or.inr (wd50 hw)) (Or.inr (wd68 hw)) (by decide) (t := (.object "com/example/object_access_rules/objectaccessrules/StatusCode")) (t' := (.object "com/example/object_access_rules/objectaccessrules/Result")) (by decide) (by decide))))
    have cx74 : Fld Z h67 a "com/example/object_access_rules/objectaccessrules/Result" "message" "Ljava/lang/String;" (.ref ms) := (Fld.other W67 (Fld.other W60 Fw46 (Or.inr (slot_ne (Or.inr (wd55 hw)) (Or.inr (wd66 hw)) (by decide) (t := (.object "java/lang/String")) (t' := (.object "java/lang/String")) (by decide) (by decide)))) (Or.inr (slot_ne (Or.inr (wd55 hw)) (Or.inr (wd68 hw)) (by decide) (t := (.object "java/lang/String")) (t' := (.object "com/example/object_access_rules/objectaccessrules/Result")) (by decide) (by decide))))
    have cx75 : Fld Z h67 a "com/example/object_access_rules/objectaccessrules/Result" "step" "Ljava/lang/String;" (.ref sp) := (Fld.other W67 Fw60 (Or.inr (slot_ne (Or.inr (wd66 hw)) (Or.inr (wd68 hw)) (by decide) (t := (.object "java/lang/String")) (t' := (.object "com/example/object_access_rules/objectaccessrules/Result")) (by decide) (by decide))))
    have RTR69 : CHr Z own_EL s.vm h0 T67.vm h67 := R69.trans (CHv.at X67 hZ hEL R69.1)
    have RXR69 : CHr Z own_EL s.vm s.heap T67.vm T67.heap := by rw [hh, e67]; exact RTR69
    refine own_retW (Q := Q_own_r5R Z a d sc ms sp bl tm km zl vsm wI wO h0 n0) (C := ({ frames := 1, cells := 6, slots := 96, locals := 14 } : Room).cells) (N := ({ frames := 1, cells := 6, slots := 96, locals := 14 } : Room).slots) X67 hS34 (by rw [e67]; omega) (v := none) (fun _ => rfl) Bd.notSynchronized ?_ RXR69 (by decide) (by decide) (fun fs hr => X67.returnOut hx Bd.returns (hb hby d5_135) hr)
    show Q_own_r5R Z a d sc ms sp bl tm km zl vsm wI wO h0 n0 _ T67.vm T67.heap _
    rw [e67]
    exact ⟨rfl, N67, K71, cx72, cx73, cx74, cx75, Fw67⟩
  · -- no
    refine own_via (S' := T52.setTop (mkF m 54 #[.val (.ref a), .val (.ref d), .val (.ref sc), .val (.ref ms), .val (.ref sp), .val (.ref bl)] [])) (fun t k => Jvm.RoadKit.acmp (g := (mkF m 47 #[.val (.ref a), .val (.ref d), .val (.ref sc), .val (.ref ms), .val (.ref sp), .val (.ref bl)] [(.ref wI), (.ref d)])) X52 hx rfl rfl rfl (pc0 := 47) (pc' := 54) (same := false) rfl (hb hby d5_47) rfl (decide_eq_false fun q => hc47_53 (Value.ref.inj q)) (by decide) (by decide) k) ?_
    refine own_via (S' := T52.setTop (mkF m 55 #[.val (.ref a), .val (.ref d), .val (.ref sc), .val (.ref ms), .val (.ref sp), .val (.ref bl)] [(.int (0 : Int32))])) (fun t k => XS.iconst X52.here hx rfl (hb hby d5_54) k) ?_
    refine own_via (S' := T52.setTop (mkF m 56 #[.val (.ref a), .val (.ref d), .val (.ref sc), .val (.ref ms), .val (.ref sp), .val (.ref bl)] [(.ref sc), (.int (0 : Int32))])) (fun t k => XS.aloadN X52.here hx rfl (hb hby d5_55) rfl rfl k) ?_
    have cx76 : Sta Z h46 "com/example/object_access_rules/objectaccessrules/StatusCode" "OK" "Lcom/example/object_access_rules/objectaccessrules/StatusCode;" (.ref wO) := zf_S_com_example_object_access_rules_objectaccessrules_StatusCode_OK.ext O49.2
    obtain ⟨T77, X77, e77, st77⟩ := getS2 X52 hx hZ hown (host := "") (Or.inl (wd58 hw)) Via.refl e52 cx76 (g := (mkF m 56 #[.val (.ref a), .val (.ref d), .val (.ref sc), .val (.ref ms), .val (.ref sp), .val (.ref bl)] [(.ref sc), (.int (0 : Int32))])) rfl (hb hby d5_56)
    refine own_via (S' := T77.setTop (mkF m 59 #[.val (.ref a), .val (.ref d), .val (.ref sc), .val (.ref ms), .val (.ref sp), .val (.ref bl)] [(.ref wO), (.ref sc), (.int (0 : Int32))])) st77 ?_
    have hc59_78 : sc = wO := by rcases hcons with q | q; exact absurd q.1 hc47_53; exact q.2.1
    refine own_via (S' := T77.setTop (mkF m 62 #[.val (.ref a), .val (.ref d), .val (.ref sc), .val (.ref ms), .val (.ref sp), .val (.ref bl)] [(.int (0 : Int32))])) (fun t k => Jvm.RoadKit.acmp (g := (mkF m 59 #[.val (.ref a), .val (.ref d), .val (.ref sc), .val (.ref ms), .val (.ref sp), .val (.ref bl)] [(.ref wO), (.ref sc), (.int (0 : Int32))])) X77 hx rfl rfl rfl (pc0 := 59) (pc' := 62) (same := true) rfl (hb hby d5_59) rfl (decide_eq_true (congrArg Value.ref hc59_78)) (by decide) (by decide) k) ?_
    refine own_via (S' := T77.setTop (mkF m 63 #[.val (.ref a), .val (.ref d), .val (.ref sc), .val (.ref ms), .val (.ref sp), .val (.ref bl)] [(.int (1 : Int32)), (.int (0 : Int32))])) (fun t k => XS.iconst X77.here hx rfl (hb hby d5_62) k) ?_
    refine own_via (S' := T77.setTop (mkF m 67 #[.val (.ref a), .val (.ref d), .val (.ref sc), .val (.ref ms), .val (.ref sp), .val (.ref bl)] [(.int (1 : Int32)), (.int (0 : Int32))])) (fun t k => XS.goto X77.here hx rfl (pc0 := 63) (pc' := 67) rfl (hb hby d5_63) (by decide) (by decide) k) ?_
    refine own_via (S' := T77.setTop (mkF m 91 #[.val (.ref a), .val (.ref d), .val (.ref sc), .val (.ref ms), .val (.ref sp), .val (.ref bl)] [])) (fun t k => XS.icmpYes X77.here hx rfl (pc0 := 67) (pc' := 91) rfl (hb hby d5_67) rfl (feq (by decide : ¬ ((0 : Int32) = (1 : Int32)))).2 (by decide) (by decide) k) ?_
    refine own_via (S' := T77.setTop (mkF m 92 #[.val (.ref a), .val (.ref d), .val (.ref sc), .val (.ref ms), .val (.ref sp), .val (.ref bl)] [(.ref d)])) (fun t k => XS.aloadN X77.here hx rfl (hb hby d5_91) rfl rfl k) ?_
    obtain ⟨T79, X79, e79, st79⟩ := getS2 X77 hx hZ hown (host := "") (Or.inl (wd56 hw)) Via.refl e77 cx51 (g := (mkF m 92 #[.val (.ref a), .val (.ref d), .val (.ref sc), .val (.ref ms), .val (.ref sp), .val (.ref bl)] [(.ref d)])) rfl (hb hby d5_92)
    refine own_via (S' := T79.setTop (mkF m 95 #[.val (.ref a), .val (.ref d), .val (.ref sc), .val (.ref ms), .val (.ref sp), .val (.ref bl)] [(.ref wI), (.ref d)])) st79 ?_
    refine own_via (S' := T79.setTop (mkF m 98 #[.val (.ref a), .val (.ref d), .val (.ref sc), .val (.ref ms), .val (.ref sp), .val (.ref bl)] [])) (fun t k => Jvm.RoadKit.acmp (g := (mkF m 95 #[.val (.ref a), .val (.ref d), .val (.ref sc), .val (.ref ms), .val (.ref sp), .val (.ref bl)] [(.ref wI), (.ref d)])) X79 hx rfl rfl rfl (pc0 := 95) (pc' := 98) (same := false) rfl (hb hby d5_95) rfl (decide_eq_false fun q => hc47_53 (Value.ref.inj q)) (by decide) (by decide) k) ?_
    refine own_via (S' := T79.setTop (mkF m 99 #[.val (.ref a), .val (.ref d), .val (.ref sc), .val (.ref ms), .val (.ref sp), .val (.ref bl)] [(.ref ms)])) (fun t k => XS.aloadN X79.here hx rfl (hb hby d5_98) rfl rfl k) ?_
    have hzl : zl = (0 : Int32) := by rcases hcons with q | q; exact absurd q.1 hc47_53; exact q.2.2
    have cx81 : Fld Z h46 ms "java/lang/String" "value" "[B" (.ref tm) := (Fld.other W46 ((Fld.other W29 ((Fld.other W13 (f0_F_ms_value.ext E2) (Or.inl (Ne.symm ne_a_ms))).ext E18) (Or.inl (Ne.symm ne_a_ms))).ext E34) (Or.inl (Ne.symm ne_a_ms)))
    have cx82 : Arv Z h46 tm km .byte zl vsm (.int (0 : Int32)) := ((((((f0_A_tm.ext E2).other W13 (Ne.symm ne_a_tm)).ext E18).other W29 (Ne.symm ne_a_tm)).ext E34).other W46 (Ne.symm ne_a_tm))
    have cx83 : Exa Z h46 ms "java/lang/String" := (Exa.wr W46 cx43)
    obtain ⟨cq80, kq80, q80a, q80b, q80c⟩ := isOf hZ e79 cx83
    obtain ⟨_, _, ⟨T80, Lp80, kp80, np80⟩, -, X80, ⟨Lc80, hQ80, l80, y80, z80⟩, st80⟩ := X79.virtualBack hx (y := mt1) (z := mt1) hown (mvT hZ (wd59 hw)) (mvT hZ (wd60 hw)) (notFace_of_selects (args := #[]) (mvT hZ (wd62 hw))) (mvT hZ (wd62 hw)) (mvT hZ (wd61 hw)) (by decide) (backOf (W := 0) (own_empty l Z a0 hw [] ms tm km zl vsm h46 n0 O49 cx81 cx82) hZ (wd63 hw) (wd21 hw) (by decide) (by decide)) q80a q80c (g := (mkF m 99 #[.val (.ref a), .val (.ref d), .val (.ref sc), .val (.ref ms), .val (.ref sp), .val (.ref bl)] [(.ref ms)])) rfl (by rw [hml]; rfl) (Steps.refl _) (argsL := []) (rest := []) (lenOf pd___Z_171 rfl) rfl (by show 2 * 0 + _ ≤ _; exact Nat.le_of_eq rfl) (hb hby d5_99) (fun _ _ => ⟨rfl, e79, (by decide : 6 + 0 ≤ _), (by decide : 96 + 0 ≤ _)⟩)
    dsimp only [Pt.U, Pt.locs, Pt.cells, Pt.slots] at X80 l80 y80 z80 st80 hQ80
    subst Lp80 kp80 np80
    obtain ⟨z80, rfl, rfl, e80, hz80_0⟩ := hQ80
    try rw [List.append_nil] at X80
    refine own_tr (S' := T80.setTop (mkF m 102 #[.val (.ref a), .val (.ref d), .val (.ref sc), .val (.ref ms), .val (.ref sp), .val (.ref bl)] [(.int z80)])) st80 ?_
    obtain rfl : z80 = (1 : Int32) := hz80_0.trans (if_pos hzl)
    refine own_via (S' := T80.setTop (mkF m 123 #[.val (.ref a), .val (.ref d), .val (.ref sc), .val (.ref ms), .val (.ref sp), .val (.ref bl)] [])) (fun t k => XS.ifYes X80.here hx rfl (pc0 := 102) (pc' := 123) rfl (hb hby d5_102) rfl ((if0 _ _).trans (feq (by decide : ¬ ((1 : Int32) = (0 : Int32)))).2) (by decide) (by decide) k) ?_
    refine own_via (S' := T80.setTop (mkF m 124 #[.val (.ref a), .val (.ref d), .val (.ref sc), .val (.ref ms), .val (.ref sp), .val (.ref bl)] [(.ref a)])) (fun t k => XS.aloadN X80.here hx rfl (hb hby d5_123) rfl rfl k) ?_
    refine own_via (S' := T80.setTop (mkF m 126 #[.val (.ref a), .val (.ref d), .val (.ref sc), .val (.ref ms), .val (.ref sp), .val (.ref bl)] [(.ref sp), (.ref a)])) (fun t k => XS.aload X80.here hx rfl (hb hby d5_124) rfl rfl k) ?_
    have cx85 : Exa Z h46 a "com/example/object_access_rules/objectaccessrules/Result" := (Exa.wr W46 cx39)
    have cx86 : Fld Z h46 a "com/example/object_access_rules/objectaccessrules/Result" "step" "Ljava/lang/String;" .null := (Fld.other W46 ((Fld.other W29 ((Fld.other W13 (f0_F_a_step.ext E2) (Or.inr (slot_ne (Or.inr (wd66 hw)) (Or.inr (wd45 hw)) (by decide) (t := (.object "java/lang/String")) (t' := (.object "com/example/object_access_rules/objectaccessrules/Decision")) (by decide) (by decide)))).ext E18) (Or.inr (slot_ne (Or.inr (wd66 hw)) (Or.inr (wd50 hw)) (by decide) (t := (.object "java/lang/String")) (t' := (.object "com/example/object_access_rules/objectaccessrules/StatusCode")) (by decide) (by decide)))).ext E34) (Or.inr (slot_ne (Or.inr (wd66 hw)) (Or.inr (wd55 hw)) (by decide) (t := (.object "java/lang/String")) (t' := (.object "java/lang/String")) (by decide) (by decide))))
    obtain ⟨T87, h87, X87, e87, W87, st87⟩ := putF X80 hx hZ hown (host := "") (Or.inl (wd65 hw)) Via.refl e80 cx86 cx85 (Or.inr ⟨(wd66 hw), rfl, hnm⟩) (wd2 hw) (ty := (.object "java/lang/String")) (by decide) rfl rfl (g := (mkF m 126 #[.val (.ref a), .val (.ref d), .val (.ref sc), .val (.ref ms), .val (.ref sp), .val (.ref bl)] [(.ref sp), (.ref a)])) rfl rfl (hb hby d5_126)
    have sf87 : Safe Z own_EL T34.vm h46 a := (Safe.exa hZ.alike cx85 (by decide) (by decide))
    have sz88 : h46.size ≤ h87.size := Nat.le_of_eq W87.size.symm
    have R89 : CHr Z own_EL s.vm h0 T34.vm h87 := R48.trans (CHr.wr W87 sf87 R48.1)
    have O90 : Old Z n0 h87 := O49.wr W87 (by omega : n0 ≤ a)
    have N87 := Fr.snoc X87 N46 (by omega : n0 ≤ a)
    have K91 : Keep h0 h87 [a] := K50.wr W87 (Or.inl (List.mem_of_getElem? (i := 0) rfl))
    have Fw87 : Fld Z h87 a "com/example/object_access_rules/objectaccessrules/Result" "step" "Ljava/lang/String;" (.ref sp) := Fld.same W87 cx86
    refine own_via (S' := T87.setTop (mkF m 129 #[.val (.ref a), .val (.ref d), .val (.ref sc), .val (.ref ms), .val (.ref sp), .val (.ref bl)] [])) st87 ?_
    refine own_via (S' := T87.setTop (mkF m 130 #[.val (.ref a), .val (.ref d), .val (.ref sc), .val (.ref ms), .val (.ref sp), .val (.ref bl)] [(.ref a)])) (fun t k => XS.aloadN X87.here hx rfl (hb hby d5_129) rfl rfl k) ?_
    refine own_via (S' := T87.setTop (mkF m 132 #[.val (.ref a), .val (.ref d), .val (.ref sc), .val (.ref ms), .val (.ref sp), .val (.ref bl)] [(.ref bl), (.ref a)])) (fun t k => XS.aload X87.here hx rfl (hb hby d5_130) rfl rfl k) ?_
    have cx92 : Exa Z h87 a "com/example/object_access_rules/objectaccessrules/Result" := (Exa.wr W87 cx85)
    have cx93 : Fld Z h87 a "com/example/object_access_rules/objectaccessrules/Result" "below" "Lcom/example/object_access_rules/objectaccessrules/Result;" .null := (Fld.other W87 (Fld.other W46 ((Fld.other W29 ((Fld.other W13 (f0_F_a_below.ext E2) (Or.inr (slot_ne (Or.inr (wd68 hw)) (Or.inr (wd45 hw)) (by decide) (t := (.object "com/example/object_access_rules/objectaccessrules/Result")) (t' := (.object "com/example/object_access_rules/objectaccessrules/Decision")) (by decide) (by decide)))).ext E18) (Or.inr (slot_ne (Or.inr (wd68 hw)) (Or.inr (wd50 hw)) (by decide) (t := (.object "com/example/object_access_rules/objectaccessrules/Result")) (t' := (.object "com/example/object_access_rules/objectaccessrules/StatusCode")) (by decide) (by decide)))).ext E34) (Or.inr (slot_ne (Or.inr (wd68 hw)) (Or.inr (wd55 hw)) (by decide) (t := (.object "com/example/object_access_rules/objectaccessrules/Result")) (t' := (.object "java/lang/String")) (by decide) (by decide)))) (Or.inr (slot_ne (Or.inr (wd68 hw)) (Or.inr (wd66 hw)) (by decide) (t := (.object "com/example/object_access_rules/objectaccessrules/Result")) (t' := (.object "java/lang/String")) (by decide) (by decide))))
    obtain ⟨T94, h94, X94, e94, W94, st94⟩ := putF X87 hx hZ hown (host := "") (Or.inl (wd67 hw)) Via.refl e87 cx93 cx92 (Or.inr ⟨(wd68 hw), rfl, hnm⟩) (wd2 hw) (ty := (.object "com/example/object_access_rules/objectaccessrules/Result")) (by decide) rfl rfl (g := (mkF m 132 #[.val (.ref a), .val (.ref d), .val (.ref sc), .val (.ref ms), .val (.ref sp), .val (.ref bl)] [(.ref bl), (.ref a)])) rfl rfl (hb hby d5_132)
    have sf94 : Safe Z own_EL T34.vm h87 a := (Safe.exa hZ.alike cx92 (by decide) (by decide))
    have sz95 : h87.size ≤ h94.size := Nat.le_of_eq W94.size.symm
    have R96 : CHr Z own_EL s.vm h0 T34.vm h94 := R89.trans (CHr.wr W94 sf94 R89.1)
    have O97 : Old Z n0 h94 := O90.wr W94 (by omega : n0 ≤ a)
    have N94 := Fr.snoc X94 N87 (by omega : n0 ≤ a)
    have K98 : Keep h0 h94 [a] := K91.wr W94 (Or.inl (List.mem_of_getElem? (i := 0) rfl))
    have Fw94 : Fld Z h94 a "com/example/object_access_rules/objectaccessrules/Result" "below" "Lcom/example/object_access_rules/objectaccessrules/Result;" (.ref bl) := Fld.same W94 cx93
    refine own_via (S' := T94.setTop (mkF m 135 #[.val (.ref a), .val (.ref d), .val (.ref sc), .val (.ref ms), .val (.ref sp), .val (.ref bl)] [])) st94 ?_
    have cx99 : Fld Z h94 a "com/example/object_access_rules/objectaccessrules/Result" "decision" "Lcom/example/object_access_rules/objectaccessrules/Decision;" (.ref d) := (Fld.other W94 (Fld.other W87 (Fld.other W46 ((Fld.other W29 (Fw13.ext E18) (Or.inr (slot_ne (Or.inr (wd45 hw)) (Or.inr (wd50 hw)) (by decide) (t := (.object "com/example/object_access_rules/objectaccessrules/Decision")) (t' := (.object "com/example/object_access_rules/objectaccessrules/StatusCode")) (by decide) (by decide)))).ext E34) (Or.inr (slot_ne (Or.inr (wd45 hw)) (Or.inr (wd55 hw)) (by decide) (t := (.object "com/example/object_access_rules/objectaccessrules/Decision")) (t' := (.object "java/lang/String")) (by decide) (by decide)))) (Or.inr (slot_ne (Or.inr (wd45 hw)) (Or.inr (wd66 hw)) (by decide) (t := (.object "com/example/object_access_rules/objectaccessrules/Decision")) (t' := (.object "java/lang/String")) (by decide) (by decide)))) (Or.inr (slot_ne (Or.inr (wd45 hw)) (Or.inr (wd68 hw)) (by decide) (t := (.object "com/example/object_access_rules/objectaccessrules/Decision")) (t' := (.object "com/example/object_access_rules/objectaccessrules/Result")) (by decide) (by decide))))
    have cx100 : Fld Z h94 a "com/example/object_access_rules/objectaccessrules/Result" "status" "Lcom/example/object_access_rules/objectaccessrules/StatusCode;" (.ref sc) := (Fld.other W94 (Fld.other W87 (Fld.other W46 (Fw29.ext E34) (Or.inr (slot_ne (Or.inr (wd50 hw)) (Or.inr (wd55 hw)) (by decide) (t := (.object "com/example/object_access_rules/objectaccessrules/StatusCode")) (t' := (.object "java/lang/String")) (by decide) (by decide)))) (Or.inr (slot_ne (Or.inr (wd50 hw)) (Or.inr (wd66 hw)) (by decide) (t := (.object "com/example/object_access_rules/objectaccessrules/StatusCode")) (t' := (.object "java/lang/String")) (by decide) (by decide)))) (Or.inr (slot_ne (Or.inr (wd50 hw)) (Or.inr (wd68 hw)) (by decide) (t := (.object "com/example/object_access_rules/objectaccessrules/StatusCode")) (t' := (.object "com/example/object_access_rules/objectaccessrules/Result")) (by decide) (by decide))))
    have cx101 : Fld Z h94 a "com/example/object_access_rules/objectaccessrules/Result" "message" "Ljava/lang/String;" (.ref ms) := (Fld.other W94 (Fld.other W87 Fw46 (Or.inr (slot_ne (Or.inr (wd55 hw)) (Or.inr (wd66 hw)) (by decide) (t := (.object "java/lang/String")) (t' := (.object "java/lang/String")) (by decide) (by decide)))) (Or.inr (slot_ne (Or.inr (wd55 hw)) (Or.inr (wd68 hw)) (by decide) (t := (.object "java/lang/String")) (t' := (.object "com/example/object_access_rules/objectaccessrules/Result")) (by decide) (by decide))))
    have cx102 : Fld Z h94 a "com/example/object_access_rules/objectaccessrules/Result" "step" "Ljava/lang/String;" (.ref sp) := (Fld.other W94 Fw87 (Or.inr (slot_ne (Or.inr (wd66 hw)) (Or.inr (wd68 hw)) (by decide) (t := (.object "java/lang/String")) (t' := (.object "com/example/object_access_rules/objectaccessrules/Result")) (by decide) (by decide))))
    have RTR96 : CHr Z own_EL s.vm h0 T94.vm h94 := R96.trans (CHv.at X94 hZ hEL R96.1)
    have RXR96 : CHr Z own_EL s.vm s.heap T94.vm T94.heap := by rw [hh, e94]; exact RTR96
    refine own_retW (Q := Q_own_r5R Z a d sc ms sp bl tm km zl vsm wI wO h0 n0) (C := ({ frames := 1, cells := 6, slots := 96, locals := 14 } : Room).cells) (N := ({ frames := 1, cells := 6, slots := 96, locals := 14 } : Room).slots) X94 hS34 (by rw [e94]; omega) (v := none) (fun _ => rfl) Bd.notSynchronized ?_ RXR96 (by decide) (by decide) (fun fs hr => X94.returnOut hx Bd.returns (hb hby d5_135) hr)
    show Q_own_r5R Z a d sc ms sp bl tm km zl vsm wI wO h0 n0 _ T94.vm T94.heap _
    rw [e94]
    exact ⟨rfl, N94, K98, cx99, cx100, cx101, cx102, Fw94⟩
def Q_own_r3 (Z : State) (a : Addr) (d : Addr) (sc : Addr) (ms : Addr) (tm : Addr) (km : ClassId) (zl : Int32) (vsm : List Value) (wI : Addr) (wO : Addr) (h0 : Heap) (n0 : Nat) (v : Option Value) (vm : Vm) (h : Heap) (L : List Loc) : Prop := v = none ∧ Fr n0 L ∧ Keep h0 h [a] ∧ Fld Z h a "com/example/object_access_rules/objectaccessrules/Result" "decision" "Lcom/example/object_access_rules/objectaccessrules/Decision;" (.ref d) ∧ Fld Z h a "com/example/object_access_rules/objectaccessrules/Result" "status" "Lcom/example/object_access_rules/objectaccessrules/StatusCode;" (.ref sc) ∧ Fld Z h a "com/example/object_access_rules/objectaccessrules/Result" "message" "Ljava/lang/String;" (.ref ms) ∧ Fld Z h a "com/example/object_access_rules/objectaccessrules/Result" "step" "Ljava/lang/String;" .null ∧ Fld Z h a "com/example/object_access_rules/objectaccessrules/Result" "below" "Lcom/example/object_access_rules/objectaccessrules/Result;" .null
set_option maxRecDepth 65536 in
set_option maxHeartbeats 40000000 in
theorem own_r3 (l : Launch) (Z : State) (a0 : Array Value) (hw : ∀ d ∈ tables_1, d.before a0 Z = true) (ws : List Jvm.Cond) (a : Addr) (d : Addr) (sc : Addr) (ms : Addr) (tm : Addr) (km : ClassId) (zl : Int32) (vsm : List Value) (wI : Addr) (wO : Addr) (h0 : Heap) (n0 : Nat) (O0 : Old Z n0 h0) (zf_S_com_example_object_access_rules_objectaccessrules_Decision_INDETERMINATE : Sta Z Z.heap "com/example/object_access_rules/objectaccessrules/Decision" "INDETERMINATE" "Lcom/example/object_access_rules/objectaccessrules/Decision;" (.ref wI)) (zf_S_com_example_object_access_rules_objectaccessrules_StatusCode_OK : Sta Z Z.heap "com/example/object_access_rules/objectaccessrules/StatusCode" "OK" "Lcom/example/object_access_rules/objectaccessrules/StatusCode;" (.ref wO)) (f0_E_a : Exa Z h0 a "com/example/object_access_rules/objectaccessrules/Result") (f0_F_a_decision : Fld Z h0 a "com/example/object_access_rules/objectaccessrules/Result" "decision" "Lcom/example/object_access_rules/objectaccessrules/Decision;" .null) (f0_F_a_status : Fld Z h0 a "com/example/object_access_rules/objectaccessrules/Result" "status" "Lcom/example/object_access_rules/objectaccessrules/StatusCode;" .null) (f0_F_a_message : Fld Z h0 a "com/example/object_access_rules/objectaccessrules/Result" "message" "Ljava/lang/String;" .null) (f0_F_a_step : Fld Z h0 a "com/example/object_access_rules/objectaccessrules/Result" "step" "Ljava/lang/String;" .null) (f0_F_a_below : Fld Z h0 a "com/example/object_access_rules/objectaccessrules/Result" "below" "Lcom/example/object_access_rules/objectaccessrules/Result;" .null) (f0_E_d : Exa Z h0 d "com/example/object_access_rules/objectaccessrules/Decision") (f0_E_sc : Exa Z h0 sc "com/example/object_access_rules/objectaccessrules/StatusCode") (f0_E_ms : Exa Z h0 ms "java/lang/String") (f0_F_ms_value : Fld Z h0 ms "java/lang/String" "value" "[B" (.ref tm)) (f0_A_tm : Arv Z h0 tm km .byte zl vsm (.int (0 : Int32))) (g_a : n0 ≤ a) (hcons : (d = wI ∧ ¬ (sc = wO)) ∨ (¬ (d = wI) ∧ sc = wO ∧ zl = (0 : Int32))) :
    MetFree l mt3 (head1 (Jvm.Cond.code mt3 prog_37_method_1_code 4 none :: ws) ({ frames := 2, cells := 6, slots := 96, locals := 31 } : Room)) (fun aq U => aq = #[(.ref a), (.ref d), (.ref sc), (.ref ms)] ∧ Z.Warmed39 U.vm ∧ U.heap = h0 ∧ CHv Z own_EL U.vm h0 ∧ ∀ x ∈ ([] : List Addr), Safe Z own_EL U.vm h0 x) (fun _ _ _ _ _ => True) (fun _ U o U' => ∃ v L, o = .returned v ∧ Q_own_r3 Z a d sc ms tm km zl vsm wI wO h0 n0 v U'.vm U'.heap L ∧ CHr Z own_EL U.vm U.heap U'.vm U'.heap ∧ ReturnedEndW U o U' L ({ frames := 2, cells := 6, slots := 96, locals := 31 } : Room).cells ({ frames := 2, cells := 6, slots := 96, locals := 31 } : Room).slots) := by
  refine MetFree.of_bodySF (plainFor_of_name pn_com_example_object_access_rules_objectaccessrules_Result) hisR ?_
  intro p e s m args below meth c s₁ Bd hml0 hP hK
  obtain ⟨rfl, hZ, hh, hCH, hSL⟩ := hP
  have hx := Bd.exec
  have hby := Bd.bytes
  have hml : c.maxLocals = 4 := hml0
  have hown : s.vm.findClass "com/example/object_access_rules/objectaccessrules/Result" = some m.cls := findClass_of_methodNamed Bd.named
  have hnm := (name_of_methodNamed Bd.named Bd.method).1
  have X0 : Stand p l e ({ frames := 2, cells := 6, slots := 96, locals := 31 } : Room) (s.setVm s.vm) m #[(.ref a), (.ref d), (.ref sc), (.ref ms)] below meth c s₁ [] 0 0 := Stand.of_body Bd
  have e0 : s₁.heap = h0 := by rw [← hh, Bd.state]; rfl
  have N0 := Fr.nil n0
  have zO := O0.1
  have zO2 := O0.2.1
  have fl_E_a : h0.size > a := f0_E_a.lt
  have fl_F_a_decision : h0.size > a := f0_F_a_decision.lt
  have fl_F_a_status : h0.size > a := f0_F_a_status.lt
  have fl_F_a_message : h0.size > a := f0_F_a_message.lt
  have fl_F_a_step : h0.size > a := f0_F_a_step.lt
  have fl_F_a_below : h0.size > a := f0_F_a_below.lt
  have fl_E_d : h0.size > d := f0_E_d.lt
  have fl_E_sc : h0.size > sc := f0_E_sc.lt
  have fl_E_ms : h0.size > ms := f0_E_ms.lt
  have fl_F_ms_value : h0.size > ms := f0_F_ms_value.lt
  have fl_A_tm : h0.size > tm := f0_A_tm.lt
  refine own_open (own_via (S' := s₁.setTop (mkF m 0 #[.val (.ref a), .val (.ref d), .val (.ref sc), .val (.ref ms)] [])) (fun t k => castTop (ef_own_r3 m a d sc ms) k) ?_)
  have hEL := own_EW hw
  have hS0 : s.Since s.vm h0.size := (State.WarmedH.refl s).since _
  have R0 : CHr Z own_EL s.vm h0 s.vm h0 := CHr.refl hCH
  have K0 : Keep h0 h0 [a] := Keep.refl _ _
  have ne_a_d : a ≠ d := Exa.ne f0_E_a f0_E_d (by decide)
  have ne_a_sc : a ≠ sc := Exa.ne f0_E_a f0_E_sc (by decide)
  have ne_a_ms : a ≠ ms := Exa.ne f0_E_a f0_E_ms (by decide)
  have ne_a_tm : a ≠ tm := Exa.neArv f0_E_a f0_A_tm (wd2 hw)
  have ne_d_sc : d ≠ sc := Exa.ne f0_E_d f0_E_sc (by decide)
  have ne_d_ms : d ≠ ms := Exa.ne f0_E_d f0_E_ms (by decide)
  have ne_sc_ms : sc ≠ ms := Exa.ne f0_E_sc f0_E_ms (by decide)
  have ne_ms_tm : ms ≠ tm := Exa.neArv f0_E_ms f0_A_tm (wd22 hw)
  refine own_via (S' := s₁.setTop (mkF m 1 #[.val (.ref a), .val (.ref d), .val (.ref sc), .val (.ref ms)] [(.ref a)])) (fun t k => XS.aloadN X0.here hx rfl (hb hby d4_0) rfl rfl k) ?_
  refine own_via (S' := s₁.setTop (mkF m 2 #[.val (.ref a), .val (.ref d), .val (.ref sc), .val (.ref ms)] [(.ref d), (.ref a)])) (fun t k => XS.aloadN X0.here hx rfl (hb hby d4_1) rfl rfl k) ?_
  refine own_via (S' := s₁.setTop (mkF m 3 #[.val (.ref a), .val (.ref d), .val (.ref sc), .val (.ref ms)] [(.ref sc), (.ref d), (.ref a)])) (fun t k => XS.aloadN X0.here hx rfl (hb hby d4_2) rfl rfl k) ?_
  refine own_via (S' := s₁.setTop (mkF m 4 #[.val (.ref a), .val (.ref d), .val (.ref sc), .val (.ref ms)] [(.ref ms), (.ref sc), (.ref d), (.ref a)])) (fun t k => XS.aloadN X0.here hx rfl (hb hby d4_3) rfl rfl k) ?_
  refine own_via (S' := s₁.setTop (mkF m 5 #[.val (.ref a), .val (.ref d), .val (.ref sc), .val (.ref ms)] [.null, (.ref ms), (.ref sc), (.ref d), (.ref a)])) (fun t k => XS.aconstNull X0.here hx rfl (hb hby d4_4) k) ?_
  refine own_via (S' := s₁.setTop (mkF m 6 #[.val (.ref a), .val (.ref d), .val (.ref sc), .val (.ref ms)] [.null, .null, (.ref ms), (.ref sc), (.ref d), (.ref a)])) (fun t k => XS.aconstNull X0.here hx rfl (hb hby d4_5) k) ?_
  have hk1 : h0.size ≤ s₁.heap.size := by rw [e0]; omega
  obtain ⟨_, _, ⟨T1, Lp1, kp1, np1⟩, -, X1, hS1, hgr1, ⟨Lc1, ⟨hQ1, R1q⟩, l1, y1, z1⟩, st1⟩ := X0.specialBackS hx (y := mt2) rfl hown (mvT hZ (wd31 hw)) (mvT hZ (wd32 hw)) (mvT hZ (wd33 hw)) (by decide) (own_backW (SL := []) (W := 0) (own_r5N l Z a0 hw [] a d sc ms tm km zl vsm wI wO h0 n0 O0 zf_S_com_example_object_access_rules_objectaccessrules_Decision_INDETERMINATE zf_S_com_example_object_access_rules_objectaccessrules_StatusCode_OK f0_E_a f0_F_a_decision f0_F_a_status f0_F_a_message f0_F_a_step f0_F_a_below f0_E_d f0_E_sc f0_E_ms f0_F_ms_value f0_A_tm (by first | assumption | exact Ne.symm (by assumption) | omega | decide | exact Nat.le_of_ble_eq_true rfl) (by first | assumption | exact Ne.symm (by assumption) | omega | decide | exact Nat.le_of_ble_eq_true rfl)) hZ (wd33 hw) (wd3 hw) (by decide) (by decide) hEL R0.1 all0) (g := (mkF m 6 #[.val (.ref a), .val (.ref d), .val (.ref sc), .val (.ref ms)] [.null, .null, (.ref ms), (.ref sc), (.ref d), (.ref a)])) rfl (by rw [hml]; rfl) (Steps.refl _) (a := a) (argsL := [(.ref d), (.ref sc), (.ref ms), .null, .null]) (rest := []) (lenOf pd__Lcom_example_object_access_rules_objectaccessrules_Decision_Lcom_example_object_access_rules_objectaccessrules_StatusCode_Ljava_lang_String_Ljava_lang_String_Lcom_example_object_access_rules_objectaccessrules_Result__V_1701 rfl) rfl (by show 2 * 0 + _ ≤ _; exact Nat.le_of_eq rfl) (hb hby d4_6) (fun _ _ => ⟨rfl, e0, (by decide : 0 + 6 ≤ _), (by decide : 0 + 96 ≤ _)⟩)
  dsimp only [Pt.U, Pt.locs, Pt.cells, Pt.slots] at X1 l1 y1 z1 st1 hQ1 hS1 hgr1 R1q
  subst Lp1 kp1 np1
  obtain ⟨X1, hSn1, hZ, hown⟩ := rebS hS0 hk1 X1 hS1 hgr1 hZ hown
  obtain ⟨rfl, N1q, K1q, f1_0, f1_1, f1_2, f1_3, f1_4⟩ := hQ1
  have N1 := Fr.app N0 N1q
  have sz2 : h0.size ≤ T1.heap.size := K1q.1
  have R3 : CHr Z own_EL s.vm h0 T1.vm T1.heap := R0.trans R1q
  have O4 : Old Z n0 T1.heap := O0.keep K1q (allS (by omega : n0 ≤ a) all0)
  have K5 : Keep h0 T1.heap [a] := K0.trans K1q (allS (P := fun x => x ∈ [a] ∨ h0.size ≤ x) (Or.inl (List.mem_of_getElem? (i := 0) rfl)) all0)
  refine own_tr (S' := T1.setTop (mkF m 9 #[.val (.ref a), .val (.ref d), .val (.ref sc), .val (.ref ms)] [])) st1 ?_
  have RTR3 : CHr Z own_EL s.vm h0 T1.vm T1.heap := R3.trans (CHv.at X1 hZ hEL R3.1)
  have RXR3 : CHr Z own_EL s.vm s.heap T1.vm T1.heap := by rw [hh]; exact RTR3
  refine own_retW (Q := Q_own_r3 Z a d sc ms tm km zl vsm wI wO h0 n0) (C := ({ frames := 2, cells := 6, slots := 96, locals := 31 } : Room).cells) (N := ({ frames := 2, cells := 6, slots := 96, locals := 31 } : Room).slots) X1 hSn1 (by omega) (v := none) (fun _ => rfl) Bd.notSynchronized ?_ RXR3 (by decide) (by decide) (fun fs hr => X1.returnOut hx Bd.returns (hb hby d4_9) hr)
  show Q_own_r3 Z a d sc ms tm km zl vsm wI wO h0 n0 _ T1.vm T1.heap _
  exact ⟨rfl, N1, K5, f1_0, f1_1, f1_2, f1_3, f1_4⟩
def Q_own_canEnc (Z : State) (c1 : Int32) (h0 : Heap) (n0 : Nat) (v : Option Value) (h : Heap) (L : List Loc) : Prop := ∃ z : Int32, v = some (.int z) ∧ L = [] ∧ h = h0 ∧ (z = (if (255 : Int32) < c1 then (0 : Int32) else (1 : Int32)))
set_option maxRecDepth 65536 in
set_option maxHeartbeats 40000000 in
theorem own_canEnc (l : Launch) (Z : State) (a0 : Array Value) (hw : ∀ d ∈ tables_1, d.before a0 Z = true) (ws : List Jvm.Cond) (c1 : Int32) (h0 : Heap) (n0 : Nat) (O0 : Old Z n0 h0) :
    MetFree l mt4 (head1 (Jvm.Cond.code mt4 jdk_43_method_3_code 1 (some .boolean) :: ws) ({ frames := 0, cells := 0, slots := 0, locals := 0 } : Room)) (fun aq U => aq = #[(.int c1)] ∧ Z.Warmed39 U.vm ∧ U.heap = h0) (fun _ _ _ _ _ => True) (fun _ U o U' => ∃ v L, o = .returned v ∧ Q_own_canEnc Z c1 h0 n0 v U'.heap L ∧ FrameEnd U o U' L ({ frames := 0, cells := 0, slots := 0, locals := 0 } : Room).cells ({ frames := 0, cells := 0, slots := 0, locals := 0 } : Room).slots) := by
  refine MetFree.of_bodySF (plainFor_of_name pn_java_lang_StringLatin1) hisR ?_
  intro p e s m args below meth c s₁ Bd hml0 hP hK
  obtain ⟨rfl, hZ, hh⟩ := hP
  have hx := Bd.exec
  have hby := Bd.bytes
  have hml : c.maxLocals = 1 := hml0
  have hown : s.vm.findClass "java/lang/StringLatin1" = some m.cls := findClass_of_methodNamed Bd.named
  have hnm := (name_of_methodNamed Bd.named Bd.method).1
  have X0 : Stand p l e ({ frames := 0, cells := 0, slots := 0, locals := 0 } : Room) s m #[(.int c1)] below meth c s₁ [] 0 0 := Stand.of_body Bd
  have e0 : s₁.heap = h0 := by rw [← hh, Bd.state]; rfl
  have N0 := Fr.nil n0
  have zO := O0.1
  have zO2 := O0.2.1
  refine own_open (own_via (S' := s₁.setTop (mkF m 0 #[.val (.int c1)] [])) (fun t k => castTop (ef_own_canEnc m c1) k) ?_)
  refine own_via (S' := s₁.setTop (mkF m 1 #[.val (.int c1)] [(.int c1)])) (fun t k => XS.iloadN X0.here hx rfl (hb hby d16_0) rfl k) ?_
  refine own_via (S' := s₁.setTop (mkF m 4 #[.val (.int c1)] [(.int (255 : Int32)), (.int c1)])) (fun t k => XS.sipush X0.here hx rfl (hb hby d16_1) k) ?_
  by_cases hc4_1 : (255 : Int32) < c1
  · -- yes
    refine own_via (S' := s₁.setTop (mkF m 11 #[.val (.int c1)] [])) (fun t k => XS.icmpYes X0.here hx rfl (pc0 := 4) (pc' := 11) rfl (hb hby d16_4) rfl (tlt hc4_1).2.2.1 (by decide) (by decide) k) ?_
    refine own_via (S' := s₁.setTop (mkF m 12 #[.val (.int c1)] [(.int (0 : Int32))])) (fun t k => XS.iconst X0.here hx rfl (hb hby d16_11) k) ?_
    refine own_ret (Q := Q_own_canEnc Z c1 h0 n0) (C := ({ frames := 0, cells := 0, slots := 0, locals := 0 } : Room).cells) (N := ({ frames := 0, cells := 0, slots := 0, locals := 0 } : Room).slots) X0 (v := some (.int (0 : Int32))) (fun h => by rw [Bd.returns] at h; cases h) Bd.notSynchronized ?_ (by decide) (by decide) (fun fs hr => retN X0 hx (t := .boolean) Bd.returns (by simp) (hb hby d16_12) hr)
    show Q_own_canEnc Z c1 h0 n0 _ s₁.heap _
    rw [e0]
    exact ⟨(0 : Int32), rfl, rfl, rfl, ((if_pos hc4_1)).symm⟩
  · -- no
    refine own_via (S' := s₁.setTop (mkF m 7 #[.val (.int c1)] [])) (fun t k => XS.icmpNo X0.here hx rfl (hb hby d16_4) rfl (flt hc4_1).2.2.1 k) ?_
    refine own_via (S' := s₁.setTop (mkF m 8 #[.val (.int c1)] [(.int (1 : Int32))])) (fun t k => XS.iconst X0.here hx rfl (hb hby d16_7) k) ?_
    refine own_via (S' := s₁.setTop (mkF m 12 #[.val (.int c1)] [(.int (1 : Int32))])) (fun t k => XS.goto X0.here hx rfl (pc0 := 8) (pc' := 12) rfl (hb hby d16_8) (by decide) (by decide) k) ?_
    refine own_ret (Q := Q_own_canEnc Z c1 h0 n0) (C := ({ frames := 0, cells := 0, slots := 0, locals := 0 } : Room).cells) (N := ({ frames := 0, cells := 0, slots := 0, locals := 0 } : Room).slots) X0 (v := some (.int (1 : Int32))) (fun h => by rw [Bd.returns] at h; cases h) Bd.notSynchronized ?_ (by decide) (by decide) (fun fs hr => retN X0 hx (t := .boolean) Bd.returns (by simp) (hb hby d16_12) hr)
    show Q_own_canEnc Z c1 h0 n0 _ s₁.heap _
    rw [e0]
    exact ⟨(1 : Int32), rfl, rfl, rfl, ((if_neg hc4_1)).symm⟩
def Q_own_toBytes (Z : State) (c1 : Int32) (h0 : Heap) (n0 : Nat) (v : Option Value) (h : Heap) (L : List Loc) : Prop := ∃ b : Addr, ∃ kb : ClassId, v = some (.ref b) ∧ Fr n0 L ∧ Keep h0 h [] ∧ Arv Z h b kb .byte (1 : Int32) [(.int (nar .byte (c1.toInt8.toInt32)))] (.int (0 : Int32))
set_option maxRecDepth 65536 in
set_option maxHeartbeats 40000000 in
theorem own_toBytes (l : Launch) (Z : State) (a0 : Array Value) (hw : ∀ d ∈ tables_1, d.before a0 Z = true) (ws : List Jvm.Cond) (c1 : Int32) (h0 : Heap) (n0 : Nat) (O0 : Old Z n0 h0) :
    MetFree l mt5 (head1 (Jvm.Cond.code mt5 jdk_43_method_46_code 1 (some (.array .byte)) :: ws) ({ frames := 0, cells := 1, slots := 1, locals := 0 } : Room)) (fun aq U => aq = #[(.int c1)] ∧ Z.Warmed39 U.vm ∧ U.heap = h0) (fun _ _ _ _ _ => True) (fun _ U o U' => ∃ v L, o = .returned v ∧ Q_own_toBytes Z c1 h0 n0 v U'.heap L ∧ FrameEnd U o U' L ({ frames := 0, cells := 1, slots := 1, locals := 0 } : Room).cells ({ frames := 0, cells := 1, slots := 1, locals := 0 } : Room).slots) := by
  refine MetFree.of_bodySF (plainFor_of_name pn_java_lang_StringLatin1) hisR ?_
  intro p e s m args below meth c s₁ Bd hml0 hP hK
  obtain ⟨rfl, hZ, hh⟩ := hP
  have hx := Bd.exec
  have hby := Bd.bytes
  have hml : c.maxLocals = 1 := hml0
  have hown : s.vm.findClass "java/lang/StringLatin1" = some m.cls := findClass_of_methodNamed Bd.named
  have hnm := (name_of_methodNamed Bd.named Bd.method).1
  have X0 : Stand p l e ({ frames := 0, cells := 1, slots := 1, locals := 0 } : Room) s m #[(.int c1)] below meth c s₁ [] 0 0 := Stand.of_body Bd
  have e0 : s₁.heap = h0 := by rw [← hh, Bd.state]; rfl
  have N0 := Fr.nil n0
  have zO := O0.1
  have zO2 := O0.2.1
  refine own_open (own_via (S' := s₁.setTop (mkF m 0 #[.val (.int c1)] [])) (fun t k => castTop (ef_own_toBytes m c1) k) ?_)
  have K0 : Keep h0 h0 [] := Keep.refl _ _
  refine own_via (S' := s₁.setTop (mkF m 1 #[.val (.int c1)] [(.int (1 : Int32))])) (fun t k => XS.iconst X0.here hx rfl (hb hby d17_0) k) ?_
  obtain ⟨T1, h1, k1, X1, e1, E1, A1, st1⟩ := newP (aty := .byte) X0 hx hZ (wd23 hw) e0 (g := (mkF m 1 #[.val (.int c1)] [(.int (1 : Int32))])) rfl (hb hby d17_1) rfl (by decide : ¬ ((1 : Int32) < (0 : Int32))) (cap := 1) (by decide) (by decide) (by decide) (by decide)
  obtain ⟨b1, g1⟩ : ∃ z, z = h0.size := ⟨_, rfl⟩
  rw [← g1] at A1 st1
  have lt_b1 : h1.size > b1 := A1.lt
  have sz2 : h0.size ≤ h1.size := E1.1
  have O3 : Old Z n0 h1 := O0.ext E1
  have K4 : Keep h0 h1 [] := K0.ext E1
  have V1 : Arv Z h1 b1 k1 .byte (1 : Int32) [(.int (0 : Int32))] (.int (0 : Int32)) := (Arv.new A1 (by decide)).pad (pad_rep [] (.int (0 : Int32)) 1)
  refine own_via (S' := T1.setTop (mkF m 3 #[.val (.int c1)] [(.ref b1)])) st1 ?_
  refine own_via (S' := T1.setTop (mkF m 4 #[.val (.int c1)] [(.ref b1), (.ref b1)])) (fun t k => XS.dup X1.here hx rfl (hb hby d17_3) rfl rfl k) ?_
  refine own_via (S' := T1.setTop (mkF m 5 #[.val (.int c1)] [(.int (0 : Int32)), (.ref b1), (.ref b1)])) (fun t k => XS.iconst X1.here hx rfl (hb hby d17_4) k) ?_
  refine own_via (S' := T1.setTop (mkF m 6 #[.val (.int c1)] [(.int c1), (.int (0 : Int32)), (.ref b1), (.ref b1)])) (fun t k => XS.iloadN X1.here hx rfl (hb hby d17_5) rfl k) ?_
  refine own_via (S' := T1.setTop (mkF m 7 #[.val (.int c1)] [(.int (c1.toInt8.toInt32)), (.int (0 : Int32)), (.ref b1), (.ref b1)])) (fun t k => XS.i2b X1.here hx rfl (hb hby d17_6) rfl k) ?_
  obtain ⟨cl5, Ar5, q5, S5, M5, H5, U5⟩ := id V1
  obtain ⟨T5, h5, X5, e5, W5, st5⟩ := stB X1 hx hZ e1 Ar5 (j := (0 : Int32)) (inb_of S5 ⟨by decide, by decide⟩) (g := (mkF m 7 #[.val (.int c1)] [(.int (c1.toInt8.toInt32)), (.int (0 : Int32)), (.ref b1), (.ref b1)])) rfl rfl (hb hby d17_7)
  have sz6 : h1.size ≤ h5.size := Nat.le_of_eq W5.size.symm
  have O7 : Old Z n0 h5 := O3.wr W5 (by omega : n0 ≤ b1)
  have N5 := Fr.snoc X5 N0 (by omega : n0 ≤ b1)
  have K8 : Keep h0 h5 [] := K4.wr W5 (Or.inr (by omega : h0.size ≤ b1))
  have V5 : Arv Z h5 b1 k1 .byte (1 : Int32) [(.int (nar .byte (c1.toInt8.toInt32)))] (.int (0 : Int32)) := Arv.set Ar5 q5 S5 M5 H5 U5 (fits_nar_byte _) W5 0 rfl (Nat.le_of_ble_eq_true rfl)
  refine own_via (S' := T5.setTop (mkF m 8 #[.val (.int c1)] [(.ref b1)])) st5 ?_
  refine own_ret (Q := Q_own_toBytes Z c1 h0 n0) (C := ({ frames := 0, cells := 1, slots := 1, locals := 0 } : Room).cells) (N := ({ frames := 0, cells := 1, slots := 1, locals := 0 } : Room).slots) X5 (v := some (.ref b1)) (fun h => by rw [Bd.returns] at h; cases h) Bd.notSynchronized ?_ (by decide) (by decide) (fun fs hr => retOut X5 hx Bd.returns rfl (Or.inr (Or.inr (Or.inr (Or.inr ⟨rfl, rfl, rfl⟩)))) (hb hby d17_8) hr)
  show Q_own_toBytes Z c1 h0 n0 _ T5.heap _
  rw [e5]
  exact ⟨b1, k1, rfl, N5, K8, V5⟩
def Q_own_strBB (Z : State) (a : Addr) (tb : Addr) (h0 : Heap) (n0 : Nat) (v : Option Value) (h : Heap) (L : List Loc) : Prop := v = none ∧ Fr n0 L ∧ Keep h0 h [a] ∧ Fld Z h a "java/lang/String" "value" "[B" (.ref tb) ∧ Fld Z h a "java/lang/String" "coder" "B" (.int (0 : Int32))
set_option maxRecDepth 65536 in
set_option maxHeartbeats 40000000 in
theorem own_strBB (l : Launch) (Z : State) (a0 : Array Value) (hw : ∀ d ∈ tables_1, d.before a0 Z = true) (ws : List Jvm.Cond) (a : Addr) (tb : Addr) (h0 : Heap) (n0 : Nat) (O0 : Old Z n0 h0) (f0_E_a : Exa Z h0 a "java/lang/String") (f0_F_a_value : Fld Z h0 a "java/lang/String" "value" "[B" .null) (f0_F_a_coder : Fld Z h0 a "java/lang/String" "coder" "B" (.int (0 : Int32))) (g_a : n0 ≤ a) :
    MetFree l mt6 (head1 (Jvm.Cond.code mt6 jdk_42_method_151_code 3 none :: ws) ({ frames := 1, cells := 0, slots := 0, locals := 12 } : Room)) (fun aq U => aq = #[(.ref a), (.ref tb), (.int (0 : Int32))] ∧ Z.Warmed39 U.vm ∧ U.heap = h0) (fun _ _ _ _ _ => True) (fun _ U o U' => ∃ v L, o = .returned v ∧ Q_own_strBB Z a tb h0 n0 v U'.heap L ∧ FrameEnd U o U' L ({ frames := 1, cells := 0, slots := 0, locals := 12 } : Room).cells ({ frames := 1, cells := 0, slots := 0, locals := 12 } : Room).slots) := by
  refine MetFree.of_bodySF (plainFor_of_name pn_java_lang_String) hisR ?_
  intro p e s m args below meth c s₁ Bd hml0 hP hK
  obtain ⟨rfl, hZ, hh⟩ := hP
  have hx := Bd.exec
  have hby := Bd.bytes
  have hml : c.maxLocals = 3 := hml0
  have hown : s.vm.findClass "java/lang/String" = some m.cls := findClass_of_methodNamed Bd.named
  have hnm := (name_of_methodNamed Bd.named Bd.method).1
  have X0 : Stand p l e ({ frames := 1, cells := 0, slots := 0, locals := 12 } : Room) s m #[(.ref a), (.ref tb), (.int (0 : Int32))] below meth c s₁ [] 0 0 := Stand.of_body Bd
  have e0 : s₁.heap = h0 := by rw [← hh, Bd.state]; rfl
  have N0 := Fr.nil n0
  have zO := O0.1
  have zO2 := O0.2.1
  have fl_E_a : h0.size > a := f0_E_a.lt
  have fl_F_a_value : h0.size > a := f0_F_a_value.lt
  have fl_F_a_coder : h0.size > a := f0_F_a_coder.lt
  refine own_open (own_via (S' := s₁.setTop (mkF m 0 #[.val (.ref a), .val (.ref tb), .val (.int (0 : Int32))] [])) (fun t k => castTop (ef_own_strBB m a tb (0 : Int32)) k) ?_)
  have K0 : Keep h0 h0 [a] := Keep.refl _ _
  refine own_via (S' := s₁.setTop (mkF m 1 #[.val (.ref a), .val (.ref tb), .val (.int (0 : Int32))] [(.ref a)])) (fun t k => XS.aloadN X0.here hx rfl (hb hby d18_0) rfl rfl k) ?_
  obtain ⟨T1, X1, e1, st1⟩ := initO X0 hx hZ hown (wd80 hw) (wd35 hw) (wd36 hw) e0 (g := (mkF m 1 #[.val (.ref a), .val (.ref tb), .val (.int (0 : Int32))] [(.ref a)])) rfl (by rw [hml]; rfl) rfl (hb hby d18_1) (by decide) (W := 0) (by show 2 * 0 + _ ≤ _; exact Nat.le_of_eq rfl) (by decide)
  refine own_via (S' := T1.setTop (mkF m 4 #[.val (.ref a), .val (.ref tb), .val (.int (0 : Int32))] [])) st1 ?_
  refine own_via (S' := T1.setTop (mkF m 5 #[.val (.ref a), .val (.ref tb), .val (.int (0 : Int32))] [(.ref a)])) (fun t k => XS.aloadN X1.here hx rfl (hb hby d18_4) rfl rfl k) ?_
  refine own_via (S' := T1.setTop (mkF m 6 #[.val (.ref a), .val (.ref tb), .val (.int (0 : Int32))] [(.ref tb), (.ref a)])) (fun t k => XS.aloadN X1.here hx rfl (hb hby d18_5) rfl rfl k) ?_
  obtain ⟨T2, h2, X2, e2, W2, st2⟩ := putF X1 hx hZ hown (host := "") (Or.inl (wd64 hw)) Via.refl e1 f0_F_a_value f0_E_a (Or.inr ⟨(wd24 hw), rfl, hnm⟩) (wd22 hw) (ty := (.array .byte)) (by decide) rfl rfl (g := (mkF m 6 #[.val (.ref a), .val (.ref tb), .val (.int (0 : Int32))] [(.ref tb), (.ref a)])) rfl rfl (hb hby d18_6)
  have sz3 : h0.size ≤ h2.size := Nat.le_of_eq W2.size.symm
  have O4 : Old Z n0 h2 := O0.wr W2 (by omega : n0 ≤ a)
  have N2 := Fr.snoc X2 N0 (by omega : n0 ≤ a)
  have K5 : Keep h0 h2 [a] := K0.wr W2 (Or.inl (List.mem_of_getElem? (i := 0) rfl))
  have Fw2 : Fld Z h2 a "java/lang/String" "value" "[B" (.ref tb) := Fld.same W2 f0_F_a_value
  refine own_via (S' := T2.setTop (mkF m 9 #[.val (.ref a), .val (.ref tb), .val (.int (0 : Int32))] [])) st2 ?_
  refine own_via (S' := T2.setTop (mkF m 10 #[.val (.ref a), .val (.ref tb), .val (.int (0 : Int32))] [(.ref a)])) (fun t k => XS.aloadN X2.here hx rfl (hb hby d18_9) rfl rfl k) ?_
  refine own_via (S' := T2.setTop (mkF m 11 #[.val (.ref a), .val (.ref tb), .val (.int (0 : Int32))] [(.int (0 : Int32)), (.ref a)])) (fun t k => XS.iloadN X2.here hx rfl (hb hby d18_10) rfl k) ?_
  have cx6 : Exa Z h2 a "java/lang/String" := (Exa.wr W2 f0_E_a)
  have cx7 : Fld Z h2 a "java/lang/String" "coder" "B" (.int (0 : Int32)) := (Fld.other W2 f0_F_a_coder (Or.inr (slot_ne (Or.inr (wd25 hw)) (Or.inr (wd24 hw)) (by decide) (t := .byte) (t' := (.array .byte)) (by decide) (by decide))))
  obtain ⟨T8, h8, X8, e8, W8, st8⟩ := putFN X2 hx hZ hown (wd92 hw) Via.refl e2 cx7 cx6 (Or.inr ⟨(wd25 hw), rfl, hnm⟩) (wd22 hw) (ty := .byte) (v' := (.int (0 : Int32))) (by decide) rfl rfl (g := (mkF m 11 #[.val (.ref a), .val (.ref tb), .val (.int (0 : Int32))] [(.int (0 : Int32)), (.ref a)])) rfl rfl (hb hby d18_11)
  have sz9 : h2.size ≤ h8.size := Nat.le_of_eq W8.size.symm
  have O10 : Old Z n0 h8 := O4.wr W8 (by omega : n0 ≤ a)
  have N8 := Fr.snoc X8 N2 (by omega : n0 ≤ a)
  have K11 : Keep h0 h8 [a] := K5.wr W8 (Or.inl (List.mem_of_getElem? (i := 0) rfl))
  have Fw8 : Fld Z h8 a "java/lang/String" "coder" "B" (.int (0 : Int32)) := Fld.same W8 cx7
  refine own_via (S' := T8.setTop (mkF m 14 #[.val (.ref a), .val (.ref tb), .val (.int (0 : Int32))] [])) st8 ?_
  have cx12 : Fld Z h8 a "java/lang/String" "value" "[B" (.ref tb) := (Fld.other W8 Fw2 (Or.inr (slot_ne (Or.inr (wd24 hw)) (Or.inr (wd25 hw)) (by decide) (t := (.array .byte)) (t' := .byte) (by decide) (by decide))))
  refine own_ret (Q := Q_own_strBB Z a tb h0 n0) (C := ({ frames := 1, cells := 0, slots := 0, locals := 12 } : Room).cells) (N := ({ frames := 1, cells := 0, slots := 0, locals := 12 } : Room).slots) X8 (v := none) (fun _ => rfl) Bd.notSynchronized ?_ (by decide) (by decide) (fun fs hr => X8.returnOut hx Bd.returns (hb hby d18_14) hr)
  show Q_own_strBB Z a tb h0 n0 _ T8.heap _
  rw [e8]
  exact ⟨rfl, N8, K11, cx12, Fw8⟩
def Q_own_valueOf (Z : State) (c1 : Int32) (zc : Int32) (h0 : Heap) (n0 : Nat) (v : Option Value) (h : Heap) (L : List Loc) : Prop := ∃ b : Addr, v = some (.ref b) ∧ Fr n0 L ∧ Keep h0 h [] ∧ Exa Z h b "java/lang/String"
set_option maxRecDepth 65536 in
set_option maxHeartbeats 40000000 in
theorem own_valueOf (l : Launch) (Z : State) (a0 : Array Value) (hw : ∀ d ∈ tables_1, d.before a0 Z = true) (ws : List Jvm.Cond) (c1 : Int32) (zc : Int32) (h0 : Heap) (n0 : Nat) (O0 : Old Z n0 h0) (zf_S_java_lang_String_COMPACT_STRINGS : Sta Z Z.heap "java/lang/String" "COMPACT_STRINGS" "Z" (.int zc)) (hzc : ¬ (zc = (0 : Int32))) (rng : ¬ c1 < 0 ∧ ¬ (255 : Int32) < c1) :
    MetFree l mt7 (head1 (Jvm.Cond.code mt7 jdk_42_method_139_code 1 (some (.object "java/lang/String")) :: ws) ({ frames := 2, cells := 2, slots := 5, locals := 27 } : Room)) (fun aq U => aq = #[(.int c1)] ∧ Z.Warmed39 U.vm ∧ U.heap = h0) (fun _ _ _ _ _ => True) (fun _ U o U' => ∃ v L, o = .returned v ∧ Q_own_valueOf Z c1 zc h0 n0 v U'.heap L ∧ FrameEnd U o U' L ({ frames := 2, cells := 2, slots := 5, locals := 27 } : Room).cells ({ frames := 2, cells := 2, slots := 5, locals := 27 } : Room).slots) := by
  refine MetFree.of_bodySF (plainFor_of_name pn_java_lang_String) hisR ?_
  intro p e s m args below meth c s₁ Bd hml0 hP hK
  obtain ⟨rfl, hZ, hh⟩ := hP
  have hx := Bd.exec
  have hby := Bd.bytes
  have hml : c.maxLocals = 1 := hml0
  have hown : s.vm.findClass "java/lang/String" = some m.cls := findClass_of_methodNamed Bd.named
  have hnm := (name_of_methodNamed Bd.named Bd.method).1
  have X0 : Stand p l e ({ frames := 2, cells := 2, slots := 5, locals := 27 } : Room) s m #[(.int c1)] below meth c s₁ [] 0 0 := Stand.of_body Bd
  have e0 : s₁.heap = h0 := by rw [← hh, Bd.state]; rfl
  have N0 := Fr.nil n0
  have zO := O0.1
  have zO2 := O0.2.1
  refine own_open (own_via (S' := s₁.setTop (mkF m 0 #[.val (.int c1)] [])) (fun t k => castTop (ef_own_valueOf m c1) k) ?_)
  have K0 : Keep h0 h0 [] := Keep.refl _ _
  have cx1 : Sta Z h0 "java/lang/String" "COMPACT_STRINGS" "Z" (.int zc) := zf_S_java_lang_String_COMPACT_STRINGS.ext O0.2
  obtain ⟨T2, X2, e2, st2⟩ := getS2 X0 hx hZ hown (host := "") (Or.inl (wd81 hw)) Via.refl e0 cx1 (g := (mkF m 0 #[.val (.int c1)] [])) rfl (hb hby d15_0)
  refine own_via (S' := T2.setTop (mkF m 3 #[.val (.int c1)] [(.int zc)])) st2 ?_
  refine own_via (S' := T2.setTop (mkF m 6 #[.val (.int c1)] [])) (fun t k => XS.ifNo X2.here hx rfl (hb hby d15_3) rfl ((if0 _ _).trans (feq hzc).1) k) ?_
  refine own_via (S' := T2.setTop (mkF m 7 #[.val (.int c1)] [(.int c1)])) (fun t k => XS.iloadN X2.here hx rfl (hb hby d15_6) rfl k) ?_
  obtain ⟨_, _, ⟨T3, Lp3, kp3, np3⟩, -, X3, ⟨Lc3, hQ3, l3, y3, z3⟩, st3⟩ := Jvm.LawKit.callS X2 hx (y := mt4) hown (mvT hZ (wd105 hw)) (mvT hZ (wd106 hw)) (mvT hZ (wd107 hw)) (mvT hZ (wd108 hw)) (by decide) (backOf (W := 0) (own_canEnc l Z a0 hw [] c1 h0 n0 O0) hZ (wd108 hw) (wd107 hw) (by decide) (by decide)) (g := (mkF m 7 #[.val (.int c1)] [(.int c1)])) rfl (by rw [hml]; rfl) (argsL := [(.int c1)]) (rest := []) (lenOf pd__C_Z_238 rfl) rfl (by show 2 * 0 + _ ≤ _; exact Nat.le_of_eq rfl) (hb hby d15_7) (fun _ _ => ⟨rfl, e2, (by decide : 0 + 0 ≤ _), (by decide : 0 + 0 ≤ _)⟩)
  dsimp only [Pt.U, Pt.locs, Pt.cells, Pt.slots] at X3 l3 y3 z3 st3 hQ3
  subst Lp3 kp3 np3
  obtain ⟨z3, rfl, rfl, e3, hz3_0⟩ := hQ3
  try rw [List.append_nil] at X3
  refine own_via (S' := T3.setTop (mkF m 10 #[.val (.int c1)] [(.int z3)])) st3 ?_
  obtain rfl : z3 = (1 : Int32) := hz3_0.trans (if_neg rng.2)
  refine own_via (S' := T3.setTop (mkF m 13 #[.val (.int c1)] [])) (fun t k => XS.ifNo X3.here hx rfl (hb hby d15_10) rfl ((if0 _ _).trans (feq (by decide : ¬ ((1 : Int32) = (0 : Int32)))).1) k) ?_
  obtain ⟨T5, h5, X5, e5, E5, A5, D5, -, st5⟩ := newO X3 hx hZ hown (wd109 hw) (wd22 hw) (wd21 hw) e3 (g := (mkF m 13 #[.val (.int c1)] [])) rfl (hb hby d15_13) (by decide) (by decide)
  obtain ⟨b5, g5⟩ : ∃ z, z = h0.size := ⟨_, rfl⟩
  rw [← g5] at A5 D5 st5
  have lt_b5 : h5.size > b5 := A5.lt
  have sz6 : h0.size ≤ h5.size := E5.1
  have O7 : Old Z n0 h5 := O0.ext E5
  have K8 : Keep h0 h5 [] := K0.ext E5
  have F5_value : Fld Z h5 b5 "java/lang/String" "value" "[B" .null := D5 (Or.inr (wd24 hw)) (ty := (.array .byte)) (by decide)
  have F5_coder : Fld Z h5 b5 "java/lang/String" "coder" "B" (.int (0 : Int32)) := D5 (Or.inr (wd25 hw)) (ty := .byte) (by decide)
  refine own_via (S' := T5.setTop (mkF m 16 #[.val (.int c1)] [(.ref b5)])) st5 ?_
  refine own_via (S' := T5.setTop (mkF m 17 #[.val (.int c1)] [(.ref b5), (.ref b5)])) (fun t k => XS.dup X5.here hx rfl (hb hby d15_16) rfl rfl k) ?_
  refine own_via (S' := T5.setTop (mkF m 18 #[.val (.int c1)] [(.int c1), (.ref b5), (.ref b5)])) (fun t k => XS.iloadN X5.here hx rfl (hb hby d15_17) rfl k) ?_
  obtain ⟨_, _, ⟨T9, Lp9, kp9, np9⟩, -, X9, ⟨Lc9, hQ9, l9, y9, z9⟩, st9⟩ := Jvm.LawKit.callS X5 hx (y := mt5) hown (mvT hZ (wd110 hw)) (mvT hZ (wd111 hw)) (mvT hZ (wd107 hw)) (mvT hZ (wd112 hw)) (by decide) (backOf (W := 2) (own_toBytes l Z a0 hw [] c1 h5 n0 O7) hZ (wd112 hw) (wd107 hw) (by decide) (by decide)) (g := (mkF m 18 #[.val (.int c1)] [(.int c1), (.ref b5), (.ref b5)])) rfl (by rw [hml]; rfl) (argsL := [(.int c1)]) (rest := [(.ref b5), (.ref b5)]) (lenOf pd__C__B_305 rfl) rfl (by show 2 * 0 + _ ≤ _; exact Nat.le_of_eq rfl) (hb hby d15_18) (fun _ _ => ⟨rfl, e5, (by decide : 1 + 1 ≤ _), (by decide : 4 + 1 ≤ _)⟩)
  dsimp only [Pt.U, Pt.locs, Pt.cells, Pt.slots] at X9 l9 y9 z9 st9 hQ9
  subst Lp9 kp9 np9
  obtain ⟨b9, kb9, rfl, N9q, K9q, f9_0⟩ := hQ9
  have N9 := Fr.app N0 N9q
  have sz10 : h5.size ≤ T9.heap.size := K9q.1
  have O11 : Old Z n0 T9.heap := O7.keep K9q all0
  have K12 : Keep h0 T9.heap [] := K8.trans K9q all0
  have lt13_b9 : T9.heap.size > b9 := f9_0.lt
  refine own_via (S' := T9.setTop (mkF m 21 #[.val (.int c1)] [(.ref b9), (.ref b5), (.ref b5)])) st9 ?_
  refine own_via (S' := T9.setTop (mkF m 22 #[.val (.int c1)] [(.int (0 : Int32)), (.ref b9), (.ref b5), (.ref b5)])) (fun t k => XS.iconst X9.here hx rfl (hb hby d15_21) k) ?_
  have cx15 : Exa Z T9.heap b5 "java/lang/String" := (A5.keep K9q)
  have cx16 : Fld Z T9.heap b5 "java/lang/String" "value" "[B" .null := (F5_value.keep K9q nin0)
  have cx17 : Fld Z T9.heap b5 "java/lang/String" "coder" "B" (.int (0 : Int32)) := (F5_coder.keep K9q nin0)
  obtain ⟨_, _, ⟨T14, Lp14, kp14, np14⟩, -, X14, ⟨Lc14, hQ14, l14, y14, z14⟩, st14⟩ := X9.specialBack hx (y := mt6) rfl hown (mvT hZ (wd113 hw)) (mvT hZ (wd114 hw)) (mvT hZ (wd115 hw)) (by decide) (backOf (W := 1) (own_strBB l Z a0 hw [] b5 b9 T9.heap n0 O11 cx15 cx16 cx17 (by first | assumption | exact Ne.symm (by assumption) | omega | decide | exact Nat.le_of_ble_eq_true rfl)) hZ (wd115 hw) (wd21 hw) (by decide) (by decide)) (g := (mkF m 22 #[.val (.int c1)] [(.int (0 : Int32)), (.ref b9), (.ref b5), (.ref b5)])) rfl (by rw [hml]; rfl) (Steps.refl _) (a := b5) (argsL := [(.ref b9), (.int (0 : Int32))]) (rest := [(.ref b5)]) (lenOf pd___BB_V_390 rfl) rfl (by show 2 * 0 + _ ≤ _; exact Nat.le_of_eq rfl) (hb hby d15_22) (fun _ _ => ⟨rfl, rfl, (by decide : 2 + 0 ≤ _), (by decide : 5 + 0 ≤ _)⟩)
  dsimp only [Pt.U, Pt.locs, Pt.cells, Pt.slots] at X14 l14 y14 z14 st14 hQ14
  subst Lp14 kp14 np14
  obtain ⟨rfl, N14q, K14q, f14_0, f14_1⟩ := hQ14
  have N14 := Fr.app N9 N14q
  have sz18 : T9.heap.size ≤ T14.heap.size := K14q.1
  have O19 : Old Z n0 T14.heap := O11.keep K14q (allS (by omega : n0 ≤ b5) all0)
  have K20 : Keep h0 T14.heap [] := K12.trans K14q (allS (P := fun x => x ∈ [] ∨ h0.size ≤ x) (Or.inr (by omega)) all0)
  refine own_tr (S' := T14.setTop (mkF m 25 #[.val (.int c1)] [(.ref b5)])) st14 ?_
  have cx21 : Exa Z T14.heap b5 "java/lang/String" := (cx15.keep K14q)
  refine own_ret (Q := Q_own_valueOf Z c1 zc h0 n0) (C := ({ frames := 2, cells := 2, slots := 5, locals := 27 } : Room).cells) (N := ({ frames := 2, cells := 2, slots := 5, locals := 27 } : Room).slots) X14 (v := some (.ref b5)) (fun h => by rw [Bd.returns] at h; cases h) Bd.notSynchronized ?_ (by decide) (by decide) (fun fs hr => retOut X14 hx Bd.returns rfl (Or.inr (Or.inr (Or.inr (Or.inr ⟨rfl, rfl, rfl⟩)))) (hb hby d15_25) hr)
  show Q_own_valueOf Z c1 zc h0 n0 _ T14.heap _
  exact ⟨b5, rfl, N14, K20, cx21⟩
def Q_own_dec (Z : State) (i1 : Int32) (wP : Addr) (wD : Addr) (wN : Addr) (wI : Addr) (h0 : Heap) (n0 : Nat) (v : Option Value) (h : Heap) (L : List Loc) : Prop := ∃ z : Addr, v = some (.ref z) ∧ L = [] ∧ h = h0 ∧ Exa Z h z "com/example/object_access_rules/objectaccessrules/Decision" ∧ (z = (if i1 = (0 : Int32) then wP else (if i1 = (1 : Int32) then wD else (if i1 = (2 : Int32) then wN else wI))))
set_option maxRecDepth 65536 in
set_option maxHeartbeats 40000000 in
theorem own_dec (l : Launch) (Z : State) (a0 : Array Value) (hw : ∀ d ∈ tables_1, d.before a0 Z = true) (ws : List Jvm.Cond) (i1 : Int32) (wP : Addr) (wD : Addr) (wN : Addr) (wI : Addr) (h0 : Heap) (n0 : Nat) (O0 : Old Z n0 h0) (zf_S_com_example_object_access_rules_objectaccessrules_Decision_PERMIT : Sta Z Z.heap "com/example/object_access_rules/objectaccessrules/Decision" "PERMIT" "Lcom/example/object_access_rules/objectaccessrules/Decision;" (.ref wP)) (zf_S_com_example_object_access_rules_objectaccessrules_Decision_DENY : Sta Z Z.heap "com/example/object_access_rules/objectaccessrules/Decision" "DENY" "Lcom/example/object_access_rules/objectaccessrules/Decision;" (.ref wD)) (zf_S_com_example_object_access_rules_objectaccessrules_Decision_NOT_APPLICABLE : Sta Z Z.heap "com/example/object_access_rules/objectaccessrules/Decision" "NOT_APPLICABLE" "Lcom/example/object_access_rules/objectaccessrules/Decision;" (.ref wN)) (zf_S_com_example_object_access_rules_objectaccessrules_Decision_INDETERMINATE : Sta Z Z.heap "com/example/object_access_rules/objectaccessrules/Decision" "INDETERMINATE" "Lcom/example/object_access_rules/objectaccessrules/Decision;" (.ref wI)) (zf_E_wP : Exa Z Z.heap wP "com/example/object_access_rules/objectaccessrules/Decision") (zf_E_wD : Exa Z Z.heap wD "com/example/object_access_rules/objectaccessrules/Decision") (zf_E_wN : Exa Z Z.heap wN "com/example/object_access_rules/objectaccessrules/Decision") (zf_E_wI : Exa Z Z.heap wI "com/example/object_access_rules/objectaccessrules/Decision") :
    MetFree l mt8 (head1 (Jvm.Cond.code mt8 method_2_code 1 (some (.object "com/example/object_access_rules/objectaccessrules/Decision")) :: ws) ({ frames := 0, cells := 0, slots := 0, locals := 0 } : Room)) (fun aq U => aq = #[(.int i1)] ∧ Z.Warmed39 U.vm ∧ U.heap = h0) (fun _ _ _ _ _ => True) (fun _ U o U' => ∃ v L, o = .returned v ∧ Q_own_dec Z i1 wP wD wN wI h0 n0 v U'.heap L ∧ FrameEnd U o U' L ({ frames := 0, cells := 0, slots := 0, locals := 0 } : Room).cells ({ frames := 0, cells := 0, slots := 0, locals := 0 } : Room).slots) := by
  refine MetFree.of_bodySF (plainFor_of_name pn_com_example_object_access_rules_objectaccessrules_ResultEqualsPinLaw) hisR ?_
  intro p e s m args below meth c s₁ Bd hml0 hP hK
  obtain ⟨rfl, hZ, hh⟩ := hP
  have hx := Bd.exec
  have hby := Bd.bytes
  have hml : c.maxLocals = 1 := hml0
  have hown : s.vm.findClass "com/example/object_access_rules/objectaccessrules/ResultEqualsPinLaw" = some m.cls := findClass_of_methodNamed Bd.named
  have hnm := (name_of_methodNamed Bd.named Bd.method).1
  have X0 : Stand p l e ({ frames := 0, cells := 0, slots := 0, locals := 0 } : Room) s m #[(.int i1)] below meth c s₁ [] 0 0 := Stand.of_body Bd
  have e0 : s₁.heap = h0 := by rw [← hh, Bd.state]; rfl
  have N0 := Fr.nil n0
  have zO := O0.1
  have zO2 := O0.2.1
  have zl_E_wP : Z.heap.size > wP := zf_E_wP.lt
  have zl_E_wD : Z.heap.size > wD := zf_E_wD.lt
  have zl_E_wN : Z.heap.size > wN := zf_E_wN.lt
  have zl_E_wI : Z.heap.size > wI := zf_E_wI.lt
  refine own_open (own_via (S' := s₁.setTop (mkF m 0 #[.val (.int i1)] [])) (fun t k => castTop (ef_own_dec m i1) k) ?_)
  refine own_via (S' := s₁.setTop (mkF m 1 #[.val (.int i1)] [(.int i1)])) (fun t k => XS.iloadN X0.here hx rfl (hb hby d1_0) rfl k) ?_
  by_cases hc1_1 : i1 = (0 : Int32)
  · -- yes
    refine own_via (S' := s₁.setTop (mkF m 4 #[.val (.int i1)] [])) (fun t k => XS.ifNo X0.here hx rfl (hb hby d1_1) rfl ((if0 _ _).trans (teq hc1_1).2) k) ?_
    have cx2 : Sta Z h0 "com/example/object_access_rules/objectaccessrules/Decision" "PERMIT" "Lcom/example/object_access_rules/objectaccessrules/Decision;" (.ref wP) := zf_S_com_example_object_access_rules_objectaccessrules_Decision_PERMIT.ext O0.2
    obtain ⟨T3, X3, e3, st3⟩ := getS2 X0 hx hZ hown (host := "") (Or.inl (wd8 hw)) Via.refl e0 cx2 (g := (mkF m 4 #[.val (.int i1)] [])) rfl (hb hby d1_4)
    refine own_via (S' := T3.setTop (mkF m 7 #[.val (.int i1)] [(.ref wP)])) st3 ?_
    have cx4 : Exa Z h0 wP "com/example/object_access_rules/objectaccessrules/Decision" := zf_E_wP.ext O0.2
    refine own_ret (Q := Q_own_dec Z i1 wP wD wN wI h0 n0) (C := ({ frames := 0, cells := 0, slots := 0, locals := 0 } : Room).cells) (N := ({ frames := 0, cells := 0, slots := 0, locals := 0 } : Room).slots) X3 (v := some (.ref wP)) (fun h => by rw [Bd.returns] at h; cases h) Bd.notSynchronized ?_ (by decide) (by decide) (fun fs hr => retOut X3 hx Bd.returns rfl (Or.inr (Or.inr (Or.inr (Or.inr ⟨rfl, rfl, rfl⟩)))) (hb hby d1_7) hr)
    show Q_own_dec Z i1 wP wD wN wI h0 n0 _ T3.heap _
    rw [e3]
    exact ⟨wP, rfl, rfl, rfl, cx4, ((if_pos hc1_1)).symm⟩
  · -- no
    refine own_via (S' := s₁.setTop (mkF m 8 #[.val (.int i1)] [])) (fun t k => XS.ifYes X0.here hx rfl (pc0 := 1) (pc' := 8) rfl (hb hby d1_1) rfl ((if0 _ _).trans (feq hc1_1).2) (by decide) (by decide) k) ?_
    refine own_via (S' := s₁.setTop (mkF m 9 #[.val (.int i1)] [(.int i1)])) (fun t k => XS.iloadN X0.here hx rfl (hb hby d1_8) rfl k) ?_
    refine own_via (S' := s₁.setTop (mkF m 10 #[.val (.int i1)] [(.int (1 : Int32)), (.int i1)])) (fun t k => XS.iconst X0.here hx rfl (hb hby d1_9) k) ?_
    by_cases hc10_5 : i1 = (1 : Int32)
    · -- yes
      refine own_via (S' := s₁.setTop (mkF m 13 #[.val (.int i1)] [])) (fun t k => XS.icmpNo X0.here hx rfl (hb hby d1_10) rfl (teq hc10_5).2 k) ?_
      have cx6 : Sta Z h0 "com/example/object_access_rules/objectaccessrules/Decision" "DENY" "Lcom/example/object_access_rules/objectaccessrules/Decision;" (.ref wD) := zf_S_com_example_object_access_rules_objectaccessrules_Decision_DENY.ext O0.2
      obtain ⟨T7, X7, e7, st7⟩ := getS2 X0 hx hZ hown (host := "") (Or.inl (wd124 hw)) Via.refl e0 cx6 (g := (mkF m 13 #[.val (.int i1)] [])) rfl (hb hby d1_13)
      refine own_via (S' := T7.setTop (mkF m 16 #[.val (.int i1)] [(.ref wD)])) st7 ?_
      have cx8 : Exa Z h0 wD "com/example/object_access_rules/objectaccessrules/Decision" := zf_E_wD.ext O0.2
      refine own_ret (Q := Q_own_dec Z i1 wP wD wN wI h0 n0) (C := ({ frames := 0, cells := 0, slots := 0, locals := 0 } : Room).cells) (N := ({ frames := 0, cells := 0, slots := 0, locals := 0 } : Room).slots) X7 (v := some (.ref wD)) (fun h => by rw [Bd.returns] at h; cases h) Bd.notSynchronized ?_ (by decide) (by decide) (fun fs hr => retOut X7 hx Bd.returns rfl (Or.inr (Or.inr (Or.inr (Or.inr ⟨rfl, rfl, rfl⟩)))) (hb hby d1_16) hr)
      show Q_own_dec Z i1 wP wD wN wI h0 n0 _ T7.heap _
      rw [e7]
      exact ⟨wD, rfl, rfl, rfl, cx8, (((if_neg hc1_1).trans (if_pos hc10_5))).symm⟩
    · -- no
      refine own_via (S' := s₁.setTop (mkF m 17 #[.val (.int i1)] [])) (fun t k => XS.icmpYes X0.here hx rfl (pc0 := 10) (pc' := 17) rfl (hb hby d1_10) rfl (feq hc10_5).2 (by decide) (by decide) k) ?_
      refine own_via (S' := s₁.setTop (mkF m 18 #[.val (.int i1)] [(.int i1)])) (fun t k => XS.iloadN X0.here hx rfl (hb hby d1_17) rfl k) ?_
      refine own_via (S' := s₁.setTop (mkF m 19 #[.val (.int i1)] [(.int (2 : Int32)), (.int i1)])) (fun t k => XS.iconst X0.here hx rfl (hb hby d1_18) k) ?_
      by_cases hc19_9 : i1 = (2 : Int32)
      · -- yes
        refine own_via (S' := s₁.setTop (mkF m 22 #[.val (.int i1)] [])) (fun t k => XS.icmpNo X0.here hx rfl (hb hby d1_19) rfl (teq hc19_9).2 k) ?_
        have cx10 : Sta Z h0 "com/example/object_access_rules/objectaccessrules/Decision" "NOT_APPLICABLE" "Lcom/example/object_access_rules/objectaccessrules/Decision;" (.ref wN) := zf_S_com_example_object_access_rules_objectaccessrules_Decision_NOT_APPLICABLE.ext O0.2
        obtain ⟨T11, X11, e11, st11⟩ := getS2 X0 hx hZ hown (host := "") (Or.inl (wd123 hw)) Via.refl e0 cx10 (g := (mkF m 22 #[.val (.int i1)] [])) rfl (hb hby d1_22)
        refine own_via (S' := T11.setTop (mkF m 25 #[.val (.int i1)] [(.ref wN)])) st11 ?_
        have cx12 : Exa Z h0 wN "com/example/object_access_rules/objectaccessrules/Decision" := zf_E_wN.ext O0.2
        refine own_ret (Q := Q_own_dec Z i1 wP wD wN wI h0 n0) (C := ({ frames := 0, cells := 0, slots := 0, locals := 0 } : Room).cells) (N := ({ frames := 0, cells := 0, slots := 0, locals := 0 } : Room).slots) X11 (v := some (.ref wN)) (fun h => by rw [Bd.returns] at h; cases h) Bd.notSynchronized ?_ (by decide) (by decide) (fun fs hr => retOut X11 hx Bd.returns rfl (Or.inr (Or.inr (Or.inr (Or.inr ⟨rfl, rfl, rfl⟩)))) (hb hby d1_25) hr)
        show Q_own_dec Z i1 wP wD wN wI h0 n0 _ T11.heap _
        rw [e11]
        exact ⟨wN, rfl, rfl, rfl, cx12, (((if_neg hc1_1).trans ((if_neg hc10_5).trans (if_pos hc19_9)))).symm⟩
      · -- no
        refine own_via (S' := s₁.setTop (mkF m 26 #[.val (.int i1)] [])) (fun t k => XS.icmpYes X0.here hx rfl (pc0 := 19) (pc' := 26) rfl (hb hby d1_19) rfl (feq hc19_9).2 (by decide) (by decide) k) ?_
        have cx13 : Sta Z h0 "com/example/object_access_rules/objectaccessrules/Decision" "INDETERMINATE" "Lcom/example/object_access_rules/objectaccessrules/Decision;" (.ref wI) := zf_S_com_example_object_access_rules_objectaccessrules_Decision_INDETERMINATE.ext O0.2
        obtain ⟨T14, X14, e14, st14⟩ := getS2 X0 hx hZ hown (host := "") (Or.inl (wd69 hw)) Via.refl e0 cx13 (g := (mkF m 26 #[.val (.int i1)] [])) rfl (hb hby d1_26)
        refine own_via (S' := T14.setTop (mkF m 29 #[.val (.int i1)] [(.ref wI)])) st14 ?_
        have cx15 : Exa Z h0 wI "com/example/object_access_rules/objectaccessrules/Decision" := zf_E_wI.ext O0.2
        refine own_ret (Q := Q_own_dec Z i1 wP wD wN wI h0 n0) (C := ({ frames := 0, cells := 0, slots := 0, locals := 0 } : Room).cells) (N := ({ frames := 0, cells := 0, slots := 0, locals := 0 } : Room).slots) X14 (v := some (.ref wI)) (fun h => by rw [Bd.returns] at h; cases h) Bd.notSynchronized ?_ (by decide) (by decide) (fun fs hr => retOut X14 hx Bd.returns rfl (Or.inr (Or.inr (Or.inr (Or.inr ⟨rfl, rfl, rfl⟩)))) (hb hby d1_29) hr)
        show Q_own_dec Z i1 wP wD wN wI h0 n0 _ T14.heap _
        rw [e14]
        exact ⟨wI, rfl, rfl, rfl, cx15, (((if_neg hc1_1).trans ((if_neg hc10_5).trans (if_neg hc19_9)))).symm⟩
def Q_own_st (Z : State) (i1 : Int32) (wO : Addr) (wM : Addr) (wG : Addr) (wY : Addr) (h0 : Heap) (n0 : Nat) (v : Option Value) (h : Heap) (L : List Loc) : Prop := ∃ z : Addr, v = some (.ref z) ∧ L = [] ∧ h = h0 ∧ Exa Z h z "com/example/object_access_rules/objectaccessrules/StatusCode" ∧ (z = (if i1 < (3 : Int32) then wO else (if i1 = (3 : Int32) then wM else (if i1 = (4 : Int32) then wG else wY))))
set_option maxRecDepth 65536 in
set_option maxHeartbeats 40000000 in
theorem own_st (l : Launch) (Z : State) (a0 : Array Value) (hw : ∀ d ∈ tables_1, d.before a0 Z = true) (ws : List Jvm.Cond) (i1 : Int32) (wO : Addr) (wM : Addr) (wG : Addr) (wY : Addr) (h0 : Heap) (n0 : Nat) (O0 : Old Z n0 h0) (zf_S_com_example_object_access_rules_objectaccessrules_StatusCode_OK : Sta Z Z.heap "com/example/object_access_rules/objectaccessrules/StatusCode" "OK" "Lcom/example/object_access_rules/objectaccessrules/StatusCode;" (.ref wO)) (zf_S_com_example_object_access_rules_objectaccessrules_StatusCode_MISSING_ATTRIBUTE : Sta Z Z.heap "com/example/object_access_rules/objectaccessrules/StatusCode" "MISSING_ATTRIBUTE" "Lcom/example/object_access_rules/objectaccessrules/StatusCode;" (.ref wM)) (zf_S_com_example_object_access_rules_objectaccessrules_StatusCode_PROCESSING_ERROR : Sta Z Z.heap "com/example/object_access_rules/objectaccessrules/StatusCode" "PROCESSING_ERROR" "Lcom/example/object_access_rules/objectaccessrules/StatusCode;" (.ref wG)) (zf_S_com_example_object_access_rules_objectaccessrules_StatusCode_SYNTAX_ERROR : Sta Z Z.heap "com/example/object_access_rules/objectaccessrules/StatusCode" "SYNTAX_ERROR" "Lcom/example/object_access_rules/objectaccessrules/StatusCode;" (.ref wY)) (zf_E_wO : Exa Z Z.heap wO "com/example/object_access_rules/objectaccessrules/StatusCode") (zf_E_wM : Exa Z Z.heap wM "com/example/object_access_rules/objectaccessrules/StatusCode") (zf_E_wG : Exa Z Z.heap wG "com/example/object_access_rules/objectaccessrules/StatusCode") (zf_E_wY : Exa Z Z.heap wY "com/example/object_access_rules/objectaccessrules/StatusCode") :
    MetFree l mt9 (head1 (Jvm.Cond.code mt9 method_3_code 1 (some (.object "com/example/object_access_rules/objectaccessrules/StatusCode")) :: ws) ({ frames := 0, cells := 0, slots := 0, locals := 0 } : Room)) (fun aq U => aq = #[(.int i1)] ∧ Z.Warmed39 U.vm ∧ U.heap = h0) (fun _ _ _ _ _ => True) (fun _ U o U' => ∃ v L, o = .returned v ∧ Q_own_st Z i1 wO wM wG wY h0 n0 v U'.heap L ∧ FrameEnd U o U' L ({ frames := 0, cells := 0, slots := 0, locals := 0 } : Room).cells ({ frames := 0, cells := 0, slots := 0, locals := 0 } : Room).slots) := by
  refine MetFree.of_bodySF (plainFor_of_name pn_com_example_object_access_rules_objectaccessrules_ResultEqualsPinLaw) hisR ?_
  intro p e s m args below meth c s₁ Bd hml0 hP hK
  obtain ⟨rfl, hZ, hh⟩ := hP
  have hx := Bd.exec
  have hby := Bd.bytes
  have hml : c.maxLocals = 1 := hml0
  have hown : s.vm.findClass "com/example/object_access_rules/objectaccessrules/ResultEqualsPinLaw" = some m.cls := findClass_of_methodNamed Bd.named
  have hnm := (name_of_methodNamed Bd.named Bd.method).1
  have X0 : Stand p l e ({ frames := 0, cells := 0, slots := 0, locals := 0 } : Room) s m #[(.int i1)] below meth c s₁ [] 0 0 := Stand.of_body Bd
  have e0 : s₁.heap = h0 := by rw [← hh, Bd.state]; rfl
  have N0 := Fr.nil n0
  have zO := O0.1
  have zO2 := O0.2.1
  have zl_E_wO : Z.heap.size > wO := zf_E_wO.lt
  have zl_E_wM : Z.heap.size > wM := zf_E_wM.lt
  have zl_E_wG : Z.heap.size > wG := zf_E_wG.lt
  have zl_E_wY : Z.heap.size > wY := zf_E_wY.lt
  refine own_open (own_via (S' := s₁.setTop (mkF m 0 #[.val (.int i1)] [])) (fun t k => castTop (ef_own_st m i1) k) ?_)
  refine own_via (S' := s₁.setTop (mkF m 1 #[.val (.int i1)] [(.int i1)])) (fun t k => XS.iloadN X0.here hx rfl (hb hby d2_0) rfl k) ?_
  refine own_via (S' := s₁.setTop (mkF m 2 #[.val (.int i1)] [(.int (3 : Int32)), (.int i1)])) (fun t k => XS.iconst X0.here hx rfl (hb hby d2_1) k) ?_
  by_cases hc2_1 : i1 < (3 : Int32)
  · -- yes
    refine own_via (S' := s₁.setTop (mkF m 5 #[.val (.int i1)] [])) (fun t k => XS.icmpNo X0.here hx rfl (hb hby d2_2) rfl (tlt hc2_1).2.1 k) ?_
    have cx2 : Sta Z h0 "com/example/object_access_rules/objectaccessrules/StatusCode" "OK" "Lcom/example/object_access_rules/objectaccessrules/StatusCode;" (.ref wO) := zf_S_com_example_object_access_rules_objectaccessrules_StatusCode_OK.ext O0.2
    obtain ⟨T3, X3, e3, st3⟩ := getS2 X0 hx hZ hown (host := "") (Or.inl (wd14 hw)) Via.refl e0 cx2 (g := (mkF m 5 #[.val (.int i1)] [])) rfl (hb hby d2_5)
    refine own_via (S' := T3.setTop (mkF m 8 #[.val (.int i1)] [(.ref wO)])) st3 ?_
    have cx4 : Exa Z h0 wO "com/example/object_access_rules/objectaccessrules/StatusCode" := zf_E_wO.ext O0.2
    refine own_ret (Q := Q_own_st Z i1 wO wM wG wY h0 n0) (C := ({ frames := 0, cells := 0, slots := 0, locals := 0 } : Room).cells) (N := ({ frames := 0, cells := 0, slots := 0, locals := 0 } : Room).slots) X3 (v := some (.ref wO)) (fun h => by rw [Bd.returns] at h; cases h) Bd.notSynchronized ?_ (by decide) (by decide) (fun fs hr => retOut X3 hx Bd.returns rfl (Or.inr (Or.inr (Or.inr (Or.inr ⟨rfl, rfl, rfl⟩)))) (hb hby d2_8) hr)
    show Q_own_st Z i1 wO wM wG wY h0 n0 _ T3.heap _
    rw [e3]
    exact ⟨wO, rfl, rfl, rfl, cx4, ((if_pos hc2_1)).symm⟩
  · -- no
    refine own_via (S' := s₁.setTop (mkF m 9 #[.val (.int i1)] [])) (fun t k => XS.icmpYes X0.here hx rfl (pc0 := 2) (pc' := 9) rfl (hb hby d2_2) rfl (flt hc2_1).2.1 (by decide) (by decide) k) ?_
    refine own_via (S' := s₁.setTop (mkF m 10 #[.val (.int i1)] [(.int i1)])) (fun t k => XS.iloadN X0.here hx rfl (hb hby d2_9) rfl k) ?_
    refine own_via (S' := s₁.setTop (mkF m 11 #[.val (.int i1)] [(.int (3 : Int32)), (.int i1)])) (fun t k => XS.iconst X0.here hx rfl (hb hby d2_10) k) ?_
    by_cases hc11_5 : i1 = (3 : Int32)
    · -- yes
      refine own_via (S' := s₁.setTop (mkF m 14 #[.val (.int i1)] [])) (fun t k => XS.icmpNo X0.here hx rfl (hb hby d2_11) rfl (teq hc11_5).2 k) ?_
      have cx6 : Sta Z h0 "com/example/object_access_rules/objectaccessrules/StatusCode" "MISSING_ATTRIBUTE" "Lcom/example/object_access_rules/objectaccessrules/StatusCode;" (.ref wM) := zf_S_com_example_object_access_rules_objectaccessrules_StatusCode_MISSING_ATTRIBUTE.ext O0.2
      obtain ⟨T7, X7, e7, st7⟩ := getS2 X0 hx hZ hown (host := "") (Or.inl (wd70 hw)) Via.refl e0 cx6 (g := (mkF m 14 #[.val (.int i1)] [])) rfl (hb hby d2_14)
      refine own_via (S' := T7.setTop (mkF m 17 #[.val (.int i1)] [(.ref wM)])) st7 ?_
      have cx8 : Exa Z h0 wM "com/example/object_access_rules/objectaccessrules/StatusCode" := zf_E_wM.ext O0.2
      refine own_ret (Q := Q_own_st Z i1 wO wM wG wY h0 n0) (C := ({ frames := 0, cells := 0, slots := 0, locals := 0 } : Room).cells) (N := ({ frames := 0, cells := 0, slots := 0, locals := 0 } : Room).slots) X7 (v := some (.ref wM)) (fun h => by rw [Bd.returns] at h; cases h) Bd.notSynchronized ?_ (by decide) (by decide) (fun fs hr => retOut X7 hx Bd.returns rfl (Or.inr (Or.inr (Or.inr (Or.inr ⟨rfl, rfl, rfl⟩)))) (hb hby d2_17) hr)
      show Q_own_st Z i1 wO wM wG wY h0 n0 _ T7.heap _
      rw [e7]
      exact ⟨wM, rfl, rfl, rfl, cx8, (((if_neg hc2_1).trans (if_pos hc11_5))).symm⟩
    · -- no
      refine own_via (S' := s₁.setTop (mkF m 18 #[.val (.int i1)] [])) (fun t k => XS.icmpYes X0.here hx rfl (pc0 := 11) (pc' := 18) rfl (hb hby d2_11) rfl (feq hc11_5).2 (by decide) (by decide) k) ?_
      refine own_via (S' := s₁.setTop (mkF m 19 #[.val (.int i1)] [(.int i1)])) (fun t k => XS.iloadN X0.here hx rfl (hb hby d2_18) rfl k) ?_
      refine own_via (S' := s₁.setTop (mkF m 20 #[.val (.int i1)] [(.int (4 : Int32)), (.int i1)])) (fun t k => XS.iconst X0.here hx rfl (hb hby d2_19) k) ?_
      by_cases hc20_9 : i1 = (4 : Int32)
      · -- yes
        refine own_via (S' := s₁.setTop (mkF m 23 #[.val (.int i1)] [])) (fun t k => XS.icmpNo X0.here hx rfl (hb hby d2_20) rfl (teq hc20_9).2 k) ?_
        have cx10 : Sta Z h0 "com/example/object_access_rules/objectaccessrules/StatusCode" "PROCESSING_ERROR" "Lcom/example/object_access_rules/objectaccessrules/StatusCode;" (.ref wG) := zf_S_com_example_object_access_rules_objectaccessrules_StatusCode_PROCESSING_ERROR.ext O0.2
        obtain ⟨T11, X11, e11, st11⟩ := getS2 X0 hx hZ hown (host := "") (Or.inl (wd100 hw)) Via.refl e0 cx10 (g := (mkF m 23 #[.val (.int i1)] [])) rfl (hb hby d2_23)
        refine own_via (S' := T11.setTop (mkF m 26 #[.val (.int i1)] [(.ref wG)])) st11 ?_
        have cx12 : Exa Z h0 wG "com/example/object_access_rules/objectaccessrules/StatusCode" := zf_E_wG.ext O0.2
        refine own_ret (Q := Q_own_st Z i1 wO wM wG wY h0 n0) (C := ({ frames := 0, cells := 0, slots := 0, locals := 0 } : Room).cells) (N := ({ frames := 0, cells := 0, slots := 0, locals := 0 } : Room).slots) X11 (v := some (.ref wG)) (fun h => by rw [Bd.returns] at h; cases h) Bd.notSynchronized ?_ (by decide) (by decide) (fun fs hr => retOut X11 hx Bd.returns rfl (Or.inr (Or.inr (Or.inr (Or.inr ⟨rfl, rfl, rfl⟩)))) (hb hby d2_26) hr)
        show Q_own_st Z i1 wO wM wG wY h0 n0 _ T11.heap _
        rw [e11]
        exact ⟨wG, rfl, rfl, rfl, cx12, (((if_neg hc2_1).trans ((if_neg hc11_5).trans (if_pos hc20_9)))).symm⟩
      · -- no
        refine own_via (S' := s₁.setTop (mkF m 27 #[.val (.int i1)] [])) (fun t k => XS.icmpYes X0.here hx rfl (pc0 := 20) (pc' := 27) rfl (hb hby d2_20) rfl (feq hc20_9).2 (by decide) (by decide) k) ?_
        have cx13 : Sta Z h0 "com/example/object_access_rules/objectaccessrules/StatusCode" "SYNTAX_ERROR" "Lcom/example/object_access_rules/objectaccessrules/StatusCode;" (.ref wY) := zf_S_com_example_object_access_rules_objectaccessrules_StatusCode_SYNTAX_ERROR.ext O0.2
        obtain ⟨T14, X14, e14, st14⟩ := getS2 X0 hx hZ hown (host := "") (Or.inl (wd128 hw)) Via.refl e0 cx13 (g := (mkF m 27 #[.val (.int i1)] [])) rfl (hb hby d2_27)
        refine own_via (S' := T14.setTop (mkF m 30 #[.val (.int i1)] [(.ref wY)])) st14 ?_
        have cx15 : Exa Z h0 wY "com/example/object_access_rules/objectaccessrules/StatusCode" := zf_E_wY.ext O0.2
        refine own_ret (Q := Q_own_st Z i1 wO wM wG wY h0 n0) (C := ({ frames := 0, cells := 0, slots := 0, locals := 0 } : Room).cells) (N := ({ frames := 0, cells := 0, slots := 0, locals := 0 } : Room).slots) X14 (v := some (.ref wY)) (fun h => by rw [Bd.returns] at h; cases h) Bd.notSynchronized ?_ (by decide) (by decide) (fun fs hr => retOut X14 hx Bd.returns rfl (Or.inr (Or.inr (Or.inr (Or.inr ⟨rfl, rfl, rfl⟩)))) (hb hby d2_30) hr)
        show Q_own_st Z i1 wO wM wG wY h0 n0 _ T14.heap _
        rw [e14]
        exact ⟨wY, rfl, rfl, rfl, cx15, (((if_neg hc2_1).trans ((if_neg hc11_5).trans (if_neg hc20_9)))).symm⟩
def Q_own_msg (Z : State) (i1 : Int32) (c1 : Int32) (em : Int32) (zc : Int32) (h0 : Heap) (n0 : Nat) (v : Option Value) (vm : Vm) (h : Heap) (L : List Loc) : Prop := ∃ b : Addr, ∃ tb : Addr, ∃ kb : ClassId, ∃ zl : Int32, ∃ vs : List Value, v = some (.ref b) ∧ Fr n0 L ∧ Keep h0 h [] ∧ Exa Z h b "java/lang/String" ∧ Fld Z h b "java/lang/String" "value" "[B" (.ref tb) ∧ Arv Z h tb kb .byte zl vs (.int (0 : Int32)) ∧ (i1 < (3 : Int32) → zl = (0 : Int32))
set_option maxRecDepth 65536 in
set_option maxHeartbeats 40000000 in
theorem own_msg (l : Launch) (Z : State) (a0 : Array Value) (hw : ∀ d ∈ tables_1, d.before a0 Z = true) (ws : List Jvm.Cond) (i1 : Int32) (c1 : Int32) (em : Int32) (zc : Int32) (h0 : Heap) (n0 : Nat) (O0 : Old Z n0 h0) (zf_S_java_lang_String_COMPACT_STRINGS : Sta Z Z.heap "java/lang/String" "COMPACT_STRINGS" "Z" (.int zc)) (hzc : ¬ (zc = (0 : Int32))) :
    MetFree l mt10 (head1 (Jvm.Cond.code mt10 method_4_code 4 (some (.object "java/lang/String")) :: ws) ({ frames := 4, cells := 3, slots := 8, locals := 66 } : Room)) (fun aq U => aq = #[(.int i1), (.int c1), (.int em)] ∧ Z.Warmed39 U.vm ∧ U.heap = h0 ∧ CHv Z own_EL U.vm h0 ∧ ∀ x ∈ ([] : List Addr), Safe Z own_EL U.vm h0 x) (fun _ _ _ _ _ => True) (fun _ U o U' => ∃ v L, o = .returned v ∧ Q_own_msg Z i1 c1 em zc h0 n0 v U'.vm U'.heap L ∧ CHr Z own_EL U.vm U.heap U'.vm U'.heap ∧ ReturnedEndW U o U' L ({ frames := 4, cells := 3, slots := 8, locals := 66 } : Room).cells ({ frames := 4, cells := 3, slots := 8, locals := 66 } : Room).slots) := by
  refine MetFree.of_bodySF (plainFor_of_name pn_com_example_object_access_rules_objectaccessrules_ResultEqualsPinLaw) hisR ?_
  intro p e s m args below meth c s₁ Bd hml0 hP hK
  obtain ⟨rfl, hZ, hh, hCH, hSL⟩ := hP
  have hx := Bd.exec
  have hby := Bd.bytes
  have hml : c.maxLocals = 4 := hml0
  have hown : s.vm.findClass "com/example/object_access_rules/objectaccessrules/ResultEqualsPinLaw" = some m.cls := findClass_of_methodNamed Bd.named
  have hnm := (name_of_methodNamed Bd.named Bd.method).1
  have X0 : Stand p l e ({ frames := 4, cells := 3, slots := 8, locals := 66 } : Room) (s.setVm s.vm) m #[(.int i1), (.int c1), (.int em)] below meth c s₁ [] 0 0 := Stand.of_body Bd
  have e0 : s₁.heap = h0 := by rw [← hh, Bd.state]; rfl
  have N0 := Fr.nil n0
  have zO := O0.1
  have zO2 := O0.2.1
  refine own_open (own_via (S' := s₁.setTop (mkF m 0 #[.val (.int i1), .val (.int c1), .val (.int em), .unset] [])) (fun t k => castTop (ef_own_msg m i1 c1 em) k) ?_)
  have hEL := own_EW hw
  have hS0 : s.Since s.vm h0.size := (State.WarmedH.refl s).since _
  have R0 : CHr Z own_EL s.vm h0 s.vm h0 := CHr.refl hCH
  have K0 : Keep h0 h0 [] := Keep.refl _ _
  refine own_via (S' := s₁.setTop (mkF m 1 #[.val (.int i1), .val (.int c1), .val (.int em), .unset] [(.int i1)])) (fun t k => XS.iloadN X0.here hx rfl (hb hby d3_0) rfl k) ?_
  refine own_via (S' := s₁.setTop (mkF m 2 #[.val (.int i1), .val (.int c1), .val (.int em), .unset] [(.int (3 : Int32)), (.int i1)])) (fun t k => XS.iconst X0.here hx rfl (hb hby d3_1) k) ?_
  by_cases hc2_1 : i1 < (3 : Int32)
  · -- yes
    refine own_via (S' := s₁.setTop (mkF m 9 #[.val (.int i1), .val (.int c1), .val (.int em), .unset] [])) (fun t k => XS.icmpYes X0.here hx rfl (pc0 := 2) (pc' := 9) rfl (hb hby d3_2) rfl (tlt hc2_1).1 (by decide) (by decide) k) ?_
    obtain ⟨b2, T2, h2, kk2, t2, kb2, X2, e2, E2, hS2, hk2, hZ, hown, f2_0, f2_1, f2_2, f2_3, lta2, ltb2, R2q, hLit2, hsn2, st2⟩ := ldcCH X0 hx hZ hown (wd20 hw) (own_wS hw) e0 hS0 (by omega) hEL (List.mem_of_getElem? (i := 3) rfl) R0.1 (vs := []) (z := (0 : Int32)) ⟨by decide, rfl⟩ (by decide) rfl (g := (mkF m 9 #[.val (.int i1), .val (.int c1), .val (.int em), .unset] [])) rfl (hb hby d3_9) (n := 0) (by decide) (by decide) (by decide) (by decide)
    have sz3 : h0.size ≤ h2.size := E2.1
    have O4 : Old Z n0 h2 := O0.ext E2
    have R5 : CHr Z own_EL s.vm h0 T2.vm h2 := R0.trans R2q
    have K6 : Keep h0 h2 [] := K0.ext E2
    have lt_b2 : h2.size > b2 := lta2
    have lt_t2 : h2.size > t2 := ltb2
    refine own_via (S' := T2.setTop (mkF m 11 #[.val (.int i1), .val (.int c1), .val (.int em), .unset] [(.ref b2)])) st2 ?_
    have RTR5 : CHr Z own_EL s.vm h0 T2.vm h2 := R5.trans (CHv.at X2 hZ hEL R5.1)
    have RXR5 : CHr Z own_EL s.vm s.heap T2.vm T2.heap := by rw [hh, e2]; exact RTR5
    refine own_retW (Q := Q_own_msg Z i1 c1 em zc h0 n0) (C := ({ frames := 4, cells := 3, slots := 8, locals := 66 } : Room).cells) (N := ({ frames := 4, cells := 3, slots := 8, locals := 66 } : Room).slots) X2 hS2 (by rw [e2]; omega) (v := some (.ref b2)) (fun h => by rw [Bd.returns] at h; cases h) Bd.notSynchronized ?_ RXR5 (by decide) (by decide) (fun fs hr => retOut X2 hx Bd.returns rfl (Or.inr (Or.inr (Or.inr (Or.inr ⟨rfl, rfl, rfl⟩)))) (hb hby d3_11) hr)
    show Q_own_msg Z i1 c1 em zc h0 n0 _ T2.vm T2.heap _
    rw [e2]
    exact ⟨b2, t2, kb2, (0 : Int32), [], rfl, N0, K6, f2_0, f2_2, f2_3, (fun _ => rfl)⟩
  · -- no
    refine own_via (S' := s₁.setTop (mkF m 5 #[.val (.int i1), .val (.int c1), .val (.int em), .unset] [])) (fun t k => XS.icmpNo X0.here hx rfl (hb hby d3_2) rfl (flt hc2_1).1 k) ?_
    refine own_via (S' := s₁.setTop (mkF m 6 #[.val (.int i1), .val (.int c1), .val (.int em), .unset] [(.int em)])) (fun t k => XS.iloadN X0.here hx rfl (hb hby d3_5) rfl k) ?_
    by_cases hc6_7 : em = (0 : Int32)
    · -- yes
      refine own_via (S' := s₁.setTop (mkF m 12 #[.val (.int i1), .val (.int c1), .val (.int em), .unset] [])) (fun t k => XS.ifYes X0.here hx rfl (pc0 := 6) (pc' := 12) rfl (hb hby d3_6) rfl ((if0 _ _).trans (teq hc6_7).1) (by decide) (by decide) k) ?_
      refine own_via (S' := s₁.setTop (mkF m 13 #[.val (.int i1), .val (.int c1), .val (.int em), .unset] [(.int (2 : Int32))])) (fun t k => XS.iconst X0.here hx rfl (hb hby d3_12) k) ?_
      obtain ⟨T8, h8, k8, X8, e8, E8, A8, st8⟩ := newP (aty := .char) X0 hx hZ (wd72 hw) e0 (g := (mkF m 13 #[.val (.int i1), .val (.int c1), .val (.int em), .unset] [(.int (2 : Int32))])) rfl (hb hby d3_13) rfl (by decide : ¬ ((2 : Int32) < (0 : Int32))) (cap := 2) (by decide) (by decide) (by decide) (by decide)
      obtain ⟨b8, g8⟩ : ∃ z, z = h0.size := ⟨_, rfl⟩
      rw [← g8] at A8 st8
      have lt_b8 : h8.size > b8 := A8.lt
      have sz9 : h0.size ≤ h8.size := E8.1
      have O10 : Old Z n0 h8 := O0.ext E8
      have R11 : CHr Z own_EL s.vm h0 s.vm h8 := R0.trans (CHr.ext E8 R0.1)
      have K12 : Keep h0 h8 [] := K0.ext E8
      have V8 : Arv Z h8 b8 k8 .char (2 : Int32) [(.int (0 : Int32)), (.int (0 : Int32))] (.int (0 : Int32)) := (Arv.new A8 (by decide)).pad (pad_rep [] (.int (0 : Int32)) 2)
      refine own_via (S' := T8.setTop (mkF m 15 #[.val (.int i1), .val (.int c1), .val (.int em), .unset] [(.ref b8)])) st8 ?_
      refine own_via (S' := T8.setTop (mkF m 16 #[.val (.int i1), .val (.int c1), .val (.int em), .val (.ref b8)] [])) (fun t k => XS.astoreN X8.here hx rfl (hb hby d3_15) rfl rfl (l' := #[.val (.int i1), .val (.int c1), .val (.int em), .val (.ref b8)]) rfl k) ?_
      refine own_via (S' := T8.setTop (mkF m 17 #[.val (.int i1), .val (.int c1), .val (.int em), .val (.ref b8)] [(.ref b8)])) (fun t k => XS.aloadN X8.here hx rfl (hb hby d3_16) rfl rfl k) ?_
      refine own_via (S' := T8.setTop (mkF m 18 #[.val (.int i1), .val (.int c1), .val (.int em), .val (.ref b8)] [(.int (0 : Int32)), (.ref b8)])) (fun t k => XS.iconst X8.here hx rfl (hb hby d3_17) k) ?_
      refine own_via (S' := T8.setTop (mkF m 19 #[.val (.int i1), .val (.int c1), .val (.int em), .val (.ref b8)] [(.int c1), (.int (0 : Int32)), (.ref b8)])) (fun t k => XS.iloadN X8.here hx rfl (hb hby d3_18) rfl k) ?_
      refine own_via (S' := T8.setTop (mkF m 22 #[.val (.int i1), .val (.int c1), .val (.int em), .val (.ref b8)] [(.int (255 : Int32)), (.int c1), (.int (0 : Int32)), (.ref b8)])) (fun t k => XS.sipush X8.here hx rfl (hb hby d3_19) k) ?_
      refine own_via (S' := T8.setTop (mkF m 23 #[.val (.int i1), .val (.int c1), .val (.int em), .val (.ref b8)] [(.int (c1 &&& (255 : Int32))), (.int (0 : Int32)), (.ref b8)])) (fun t k => XS.iand X8.here hx rfl (hb hby d3_22) rfl k) ?_
      refine own_via (S' := T8.setTop (mkF m 24 #[.val (.int i1), .val (.int c1), .val (.int em), .val (.ref b8)] [(.int ((c1 &&& (255 : Int32)).toUInt32.toUInt16.toUInt32.toInt32)), (.int (0 : Int32)), (.ref b8)])) (fun t k => XS.i2c X8.here hx rfl (hb hby d3_23) rfl k) ?_
      obtain ⟨ch0, hn_ch0⟩ : ∃ z : Int32, z = ((c1 &&& (255 : Int32)).toUInt32.toUInt16.toUInt32.toInt32) := ⟨_, rfl⟩
      rw [← hn_ch0]
      have rng_ch0 : ¬ ch0 < 0 ∧ ¬ (255 : Int32) < ch0 := by rw [hn_ch0]; exact own_and255 _
      obtain ⟨cl13, Ar13, q13, S13, M13, H13, U13⟩ := id V8
      obtain ⟨T13, h13, X13, e13, W13, st13⟩ := stC X8 hx hZ e8 Ar13 (j := (0 : Int32)) (inb_of S13 ⟨by decide, by decide⟩) (g := (mkF m 24 #[.val (.int i1), .val (.int c1), .val (.int em), .val (.ref b8)] [(.int ch0), (.int (0 : Int32)), (.ref b8)])) rfl rfl (hb hby d3_24)
      have sf13 : Safe Z own_EL s.vm h8 b8 := (Safe.arv hZ.alike V8 (by decide))
      have sz14 : h8.size ≤ h13.size := Nat.le_of_eq W13.size.symm
      have R15 : CHr Z own_EL s.vm h0 s.vm h13 := R11.trans (CHr.wr W13 sf13 R11.1)
      have O16 : Old Z n0 h13 := O10.wr W13 (by omega : n0 ≤ b8)
      have N13 := Fr.snoc X13 N0 (by omega : n0 ≤ b8)
      have K17 : Keep h0 h13 [] := K12.wr W13 (Or.inr (by omega : h0.size ≤ b8))
      rw [own_narc rng_ch0] at W13
      have V13 : Arv Z h13 b8 k8 .char (2 : Int32) [(.int ch0), (.int (0 : Int32))] (.int (0 : Int32)) := Arv.set Ar13 q13 S13 M13 H13 U13 (own_fitc rng_ch0) W13 0 rfl (Nat.le_of_ble_eq_true rfl)
      refine own_via (S' := T13.setTop (mkF m 25 #[.val (.int i1), .val (.int c1), .val (.int em), .val (.ref b8)] [])) st13 ?_
      refine own_via (S' := T13.setTop (mkF m 26 #[.val (.int i1), .val (.int c1), .val (.int em), .val (.ref b8)] [(.ref b8)])) (fun t k => XS.aloadN X13.here hx rfl (hb hby d3_25) rfl rfl k) ?_
      refine own_via (S' := T13.setTop (mkF m 27 #[.val (.int i1), .val (.int c1), .val (.int em), .val (.ref b8)] [(.int (1 : Int32)), (.ref b8)])) (fun t k => XS.iconst X13.here hx rfl (hb hby d3_26) k) ?_
      refine own_via (S' := T13.setTop (mkF m 28 #[.val (.int i1), .val (.int c1), .val (.int em), .val (.ref b8)] [(.int c1), (.int (1 : Int32)), (.ref b8)])) (fun t k => XS.iloadN X13.here hx rfl (hb hby d3_27) rfl k) ?_
      refine own_via (S' := T13.setTop (mkF m 30 #[.val (.int i1), .val (.int c1), .val (.int em), .val (.ref b8)] [(.int (8 : Int32)), (.int c1), (.int (1 : Int32)), (.ref b8)])) (fun t k => XS.bipush X13.here hx rfl (hb hby d3_28) k) ?_
      refine own_via (S' := T13.setTop (mkF m 31 #[.val (.int i1), .val (.int c1), .val (.int em), .val (.ref b8)] [(.int ((c1.toUInt32 >>> ((8 : Int32) &&& 31).toUInt32).toInt32)), (.int (1 : Int32)), (.ref b8)])) (fun t k => XS.iushr X13.here hx rfl (hb hby d3_30) rfl k) ?_
      refine own_via (S' := T13.setTop (mkF m 34 #[.val (.int i1), .val (.int c1), .val (.int em), .val (.ref b8)] [(.int (255 : Int32)), (.int ((c1.toUInt32 >>> ((8 : Int32) &&& 31).toUInt32).toInt32)), (.int (1 : Int32)), (.ref b8)])) (fun t k => XS.sipush X13.here hx rfl (hb hby d3_31) k) ?_
      refine own_via (S' := T13.setTop (mkF m 35 #[.val (.int i1), .val (.int c1), .val (.int em), .val (.ref b8)] [(.int (((c1.toUInt32 >>> ((8 : Int32) &&& 31).toUInt32).toInt32) &&& (255 : Int32))), (.int (1 : Int32)), (.ref b8)])) (fun t k => XS.iand X13.here hx rfl (hb hby d3_34) rfl k) ?_
      refine own_via (S' := T13.setTop (mkF m 36 #[.val (.int i1), .val (.int c1), .val (.int em), .val (.ref b8)] [(.int ((((c1.toUInt32 >>> ((8 : Int32) &&& 31).toUInt32).toInt32) &&& (255 : Int32)).toUInt32.toUInt16.toUInt32.toInt32)), (.int (1 : Int32)), (.ref b8)])) (fun t k => XS.i2c X13.here hx rfl (hb hby d3_35) rfl k) ?_
      obtain ⟨ch1, hn_ch1⟩ : ∃ z : Int32, z = ((((c1.toUInt32 >>> ((8 : Int32) &&& 31).toUInt32).toInt32) &&& (255 : Int32)).toUInt32.toUInt16.toUInt32.toInt32) := ⟨_, rfl⟩
      rw [← hn_ch1]
      have rng_ch1 : ¬ ch1 < 0 ∧ ¬ (255 : Int32) < ch1 := by rw [hn_ch1]; exact own_and255 _
      obtain ⟨cl18, Ar18, q18, S18, M18, H18, U18⟩ := id V13
      obtain ⟨T18, h18, X18, e18, W18, st18⟩ := stC X13 hx hZ e13 Ar18 (j := (1 : Int32)) (inb_of S18 ⟨by decide, by decide⟩) (g := (mkF m 36 #[.val (.int i1), .val (.int c1), .val (.int em), .val (.ref b8)] [(.int ch1), (.int (1 : Int32)), (.ref b8)])) rfl rfl (hb hby d3_36)
      have sf18 : Safe Z own_EL s.vm h13 b8 := (Safe.arv hZ.alike V13 (by decide))
      have sz19 : h13.size ≤ h18.size := Nat.le_of_eq W18.size.symm
      have R20 : CHr Z own_EL s.vm h0 s.vm h18 := R15.trans (CHr.wr W18 sf18 R15.1)
      have O21 : Old Z n0 h18 := O16.wr W18 (by omega : n0 ≤ b8)
      have N18 := Fr.snoc X18 N13 (by omega : n0 ≤ b8)
      have K22 : Keep h0 h18 [] := K17.wr W18 (Or.inr (by omega : h0.size ≤ b8))
      rw [own_narc rng_ch1] at W18
      have V18 : Arv Z h18 b8 k8 .char (2 : Int32) [(.int ch0), (.int ch1)] (.int (0 : Int32)) := Arv.set Ar18 q18 S18 M18 H18 U18 (own_fitc rng_ch1) W18 1 rfl (Nat.le_of_ble_eq_true rfl)
      refine own_via (S' := T18.setTop (mkF m 37 #[.val (.int i1), .val (.int c1), .val (.int em), .val (.ref b8)] [])) st18 ?_
      obtain ⟨T23, h23, X23, e23, E23, A23, D23, -, st23⟩ := newO X18 hx hZ hown (wd73 hw) (wd22 hw) (wd21 hw) e18 (g := (mkF m 37 #[.val (.int i1), .val (.int c1), .val (.int em), .val (.ref b8)] [])) rfl (hb hby d3_37) (by decide) (by decide)
      obtain ⟨b23, g23⟩ : ∃ z, z = h18.size := ⟨_, rfl⟩
      rw [← g23] at A23 D23 st23
      have lt_b23 : h23.size > b23 := A23.lt
      have sz24 : h18.size ≤ h23.size := E23.1
      have O25 : Old Z n0 h23 := O21.ext E23
      have R26 : CHr Z own_EL s.vm h0 s.vm h23 := R20.trans (CHr.ext E23 R20.1)
      have SF_b23 : Safe Z own_EL s.vm h23 b23 := Safe.ext E23 R20.1 (Safe.new (Nat.le_of_eq g23.symm))
      have K27 : Keep h0 h23 [] := K22.ext E23
      have F23_value : Fld Z h23 b23 "java/lang/String" "value" "[B" .null := D23 (Or.inr (wd24 hw)) (ty := (.array .byte)) (by decide)
      have F23_coder : Fld Z h23 b23 "java/lang/String" "coder" "B" (.int (0 : Int32)) := D23 (Or.inr (wd25 hw)) (ty := .byte) (by decide)
      refine own_via (S' := T23.setTop (mkF m 40 #[.val (.int i1), .val (.int c1), .val (.int em), .val (.ref b8)] [(.ref b23)])) st23 ?_
      refine own_via (S' := T23.setTop (mkF m 41 #[.val (.int i1), .val (.int c1), .val (.int em), .val (.ref b8)] [(.ref b23), (.ref b23)])) (fun t k => XS.dup X23.here hx rfl (hb hby d3_40) rfl rfl k) ?_
      refine own_via (S' := T23.setTop (mkF m 42 #[.val (.int i1), .val (.int c1), .val (.int em), .val (.ref b8)] [(.ref b8), (.ref b23), (.ref b23)])) (fun t k => XS.aloadN X23.here hx rfl (hb hby d3_41) rfl rfl k) ?_
      have cx29 : Arv Z h23 b8 k8 .char (2 : Int32) [(.int ch0), (.int ch1)] (.int (0 : Int32)) := (V18.ext E23)
      have cx30 : Sta Z h23 "java/lang/String" "COMPACT_STRINGS" "Z" (.int zc) := zf_S_java_lang_String_COMPACT_STRINGS.ext O25.2
      have hws28 := own_mw hw
      have hp28 : ∀ c ∈ ([ch0, ch1] : List Int32), ¬ c < 0 ∧ ¬ (255 : Int32) < c := by
        intro c hc
        simp only [List.mem_cons, List.not_mem_nil, or_false] at hc
        rcases hc with rfl | rfl
        · exact rng_ch0
        · exact rng_ch1
      obtain ⟨_, _, ⟨T28, Lp28, kp28, np28⟩, -, X28, ⟨Lc28, hQ28, l28, y28, z28⟩, st28⟩ := X23.specialBack hx (y := mt11) rfl hown (mvT hZ (wd74 hw)) (mvT hZ (wd75 hw)) (mvT hZ (wd76 hw)) (by decide) (StrChars.Road.backV (W := 1) hZ hws28 (kI := 4) (wd22 hw) (cs := ([ch0, ch1] : List Int32)) (bs := (([ch0, ch1] : List Int32)).map (fun c => c.toInt8.toInt32)) (n := 2) (by omega : n0 ≤ b23) (by omega : n0 ≤ h23.size) A23 F23_value F23_coder cx29 cx30 hzc rfl rfl (by decide) (by decide) hp28 rfl (by decide) (by decide)) (g := (mkF m 42 #[.val (.int i1), .val (.int c1), .val (.int em), .val (.ref b8)] [(.ref b8), (.ref b23), (.ref b23)])) rfl (by rw [hml]; rfl) (Steps.refl _) (a := b23) (argsL := [(.ref b8)]) (rest := [(.ref b23)]) (lenOf pd___C_V_325 rfl) rfl (by show 2 * 0 + _ ≤ _; exact Nat.le_of_eq rfl) (hb hby d3_42) (fun _ _ => ⟨rfl, e23, (by decide : 2 + 1 ≤ _), (by decide : 6 + 2 ≤ _)⟩)
      dsimp only [Pt.U, Pt.locs, Pt.cells, Pt.slots] at X28 l28 y28 z28 st28 hQ28
      subst Lp28 kp28 np28
      obtain ⟨rfl, N28q, K28q, f28_0, f28_1, t28, kb28, tg28, tg28', tn28, f28_2, f28_3⟩ := hQ28
      have N28 := Fr.app N18 N28q
      have sf28 : ∀ x ∈ ([b23] : List Addr), Safe Z own_EL s.vm h23 x := (sfS SF_b23 sf0)
      have sz31 : h23.size ≤ T28.heap.size := K28q.1
      have R32 : CHr Z own_EL s.vm h0 s.vm T28.heap := R26.trans (CHr.keep K28q sf28 R26.1)
      have O33 : Old Z n0 T28.heap := O25.keep K28q (allS (by omega : n0 ≤ b23) all0)
      have K34 : Keep h0 T28.heap [] := K27.trans K28q (allS (P := fun x => x ∈ [] ∨ h0.size ≤ x) (Or.inr (by omega)) all0)
      have lt_t28 : T28.heap.size > t28 := f28_3.lt
      refine own_tr (S' := T28.setTop (mkF m 45 #[.val (.int i1), .val (.int c1), .val (.int em), .val (.ref b8)] [(.ref b23)])) st28 ?_
      have RTR32 : CHr Z own_EL s.vm h0 T28.vm T28.heap := R32.trans (CHv.at X28 hZ hEL R32.1)
      have RXR32 : CHr Z own_EL s.vm s.heap T28.vm T28.heap := by rw [hh]; exact RTR32
      refine own_retW (Q := Q_own_msg Z i1 c1 em zc h0 n0) (C := ({ frames := 4, cells := 3, slots := 8, locals := 66 } : Room).cells) (N := ({ frames := 4, cells := 3, slots := 8, locals := 66 } : Room).slots) X28 hS0 (by omega) (v := some (.ref b23)) (fun h => by rw [Bd.returns] at h; cases h) Bd.notSynchronized ?_ RXR32 (by decide) (by decide) (fun fs hr => retOut X28 hx Bd.returns rfl (Or.inr (Or.inr (Or.inr (Or.inr ⟨rfl, rfl, rfl⟩)))) (hb hby d3_45) hr)
      show Q_own_msg Z i1 c1 em zc h0 n0 _ T28.vm T28.heap _
      exact ⟨b23, t28, kb28, (2 : Int32), [(.int (ch0.toInt8.toInt32)), (.int (ch1.toInt8.toInt32))], rfl, N28, K34, f28_0, f28_2, f28_3, (fun q => absurd q hc2_1)⟩
    · -- no
      refine own_via (S' := s₁.setTop (mkF m 9 #[.val (.int i1), .val (.int c1), .val (.int em), .unset] [])) (fun t k => XS.ifNo X0.here hx rfl (hb hby d3_6) rfl ((if0 _ _).trans (feq hc6_7).1) k) ?_
      obtain ⟨b35, T35, h35, kk35, t35, kb35, X35, e35, E35, hS35, hk35, hZ, hown, f35_0, f35_1, f35_2, f35_3, lta35, ltb35, R35q, hLit35, hsn35, st35⟩ := ldcCH X0 hx hZ hown (wd20 hw) (own_wS hw) e0 hS0 (by omega) hEL (List.mem_of_getElem? (i := 3) rfl) R0.1 (vs := []) (z := (0 : Int32)) ⟨by decide, rfl⟩ (by decide) rfl (g := (mkF m 9 #[.val (.int i1), .val (.int c1), .val (.int em), .unset] [])) rfl (hb hby d3_9) (n := 0) (by decide) (by decide) (by decide) (by decide)
      have sz36 : h0.size ≤ h35.size := E35.1
      have O37 : Old Z n0 h35 := O0.ext E35
      have R38 : CHr Z own_EL s.vm h0 T35.vm h35 := R0.trans R35q
      have K39 : Keep h0 h35 [] := K0.ext E35
      have lt_b35 : h35.size > b35 := lta35
      have lt_t35 : h35.size > t35 := ltb35
      refine own_via (S' := T35.setTop (mkF m 11 #[.val (.int i1), .val (.int c1), .val (.int em), .unset] [(.ref b35)])) st35 ?_
      have RTR38 : CHr Z own_EL s.vm h0 T35.vm h35 := R38.trans (CHv.at X35 hZ hEL R38.1)
      have RXR38 : CHr Z own_EL s.vm s.heap T35.vm T35.heap := by rw [hh, e35]; exact RTR38
      refine own_retW (Q := Q_own_msg Z i1 c1 em zc h0 n0) (C := ({ frames := 4, cells := 3, slots := 8, locals := 66 } : Room).cells) (N := ({ frames := 4, cells := 3, slots := 8, locals := 66 } : Room).slots) X35 hS35 (by rw [e35]; omega) (v := some (.ref b35)) (fun h => by rw [Bd.returns] at h; cases h) Bd.notSynchronized ?_ RXR38 (by decide) (by decide) (fun fs hr => retOut X35 hx Bd.returns rfl (Or.inr (Or.inr (Or.inr (Or.inr ⟨rfl, rfl, rfl⟩)))) (hb hby d3_11) hr)
      show Q_own_msg Z i1 c1 em zc h0 n0 _ T35.vm T35.heap _
      rw [e35]
      exact ⟨b35, t35, kb35, (0 : Int32), [], rfl, N0, K39, f35_0, f35_2, f35_3, (fun _ => rfl)⟩
def Q_own_through (Z : State) (a : Addr) (sp : Addr) (d : Addr) (sc : Addr) (ms : Addr) (tm : Addr) (km : ClassId) (zl : Int32) (vsm : List Value) (wI : Addr) (wO : Addr) (wN : Addr) (h0 : Heap) (n0 : Nat) (v : Option Value) (vm : Vm) (h : Heap) (L : List Loc) : Prop := ∃ b : Addr, v = some (.ref b) ∧ Fr n0 L ∧ Keep h0 h [] ∧ Exa Z h b "com/example/object_access_rules/objectaccessrules/Result" ∧ Fld Z h b "com/example/object_access_rules/objectaccessrules/Result" "decision" "Lcom/example/object_access_rules/objectaccessrules/Decision;" (.ref d) ∧ Fld Z h b "com/example/object_access_rules/objectaccessrules/Result" "status" "Lcom/example/object_access_rules/objectaccessrules/StatusCode;" (.ref sc)
set_option maxRecDepth 65536 in
set_option maxHeartbeats 40000000 in
theorem own_through (l : Launch) (Z : State) (a0 : Array Value) (hw : ∀ d ∈ tables_1, d.before a0 Z = true) (ws : List Jvm.Cond) (a : Addr) (sp : Addr) (d : Addr) (sc : Addr) (ms : Addr) (tm : Addr) (km : ClassId) (zl : Int32) (vsm : List Value) (wI : Addr) (wO : Addr) (wN : Addr) (h0 : Heap) (n0 : Nat) (O0 : Old Z n0 h0) (zf_S_com_example_object_access_rules_objectaccessrules_Decision_INDETERMINATE : Sta Z Z.heap "com/example/object_access_rules/objectaccessrules/Decision" "INDETERMINATE" "Lcom/example/object_access_rules/objectaccessrules/Decision;" (.ref wI)) (zf_S_com_example_object_access_rules_objectaccessrules_StatusCode_OK : Sta Z Z.heap "com/example/object_access_rules/objectaccessrules/StatusCode" "OK" "Lcom/example/object_access_rules/objectaccessrules/StatusCode;" (.ref wO)) (zf_S_com_example_object_access_rules_objectaccessrules_Decision_NOT_APPLICABLE : Sta Z Z.heap "com/example/object_access_rules/objectaccessrules/Decision" "NOT_APPLICABLE" "Lcom/example/object_access_rules/objectaccessrules/Decision;" (.ref wN)) (f0_E_a : Exa Z h0 a "com/example/object_access_rules/objectaccessrules/Result") (f0_F_a_decision : Fld Z h0 a "com/example/object_access_rules/objectaccessrules/Result" "decision" "Lcom/example/object_access_rules/objectaccessrules/Decision;" (.ref d)) (f0_F_a_status : Fld Z h0 a "com/example/object_access_rules/objectaccessrules/Result" "status" "Lcom/example/object_access_rules/objectaccessrules/StatusCode;" (.ref sc)) (f0_F_a_message : Fld Z h0 a "com/example/object_access_rules/objectaccessrules/Result" "message" "Ljava/lang/String;" (.ref ms)) (f0_E_d : Exa Z h0 d "com/example/object_access_rules/objectaccessrules/Decision") (f0_E_sc : Exa Z h0 sc "com/example/object_access_rules/objectaccessrules/StatusCode") (f0_E_ms : Exa Z h0 ms "java/lang/String") (f0_F_ms_value : Fld Z h0 ms "java/lang/String" "value" "[B" (.ref tm)) (f0_A_tm : Arv Z h0 tm km .byte zl vsm (.int (0 : Int32))) (hcons : (d = wI ∧ ¬ (sc = wO)) ∨ (¬ (d = wI) ∧ sc = wO ∧ zl = (0 : Int32))) :
    MetFree l mt12 (head1 (Jvm.Cond.code mt12 prog_37_method_13_code 2 (some (.object "com/example/object_access_rules/objectaccessrules/Result")) :: ws) ({ frames := 2, cells := 7, slots := 101, locals := 32 } : Room)) (fun aq U => aq = #[(.ref a), (.ref sp)] ∧ Z.Warmed39 U.vm ∧ U.heap = h0 ∧ CHv Z own_EL U.vm h0 ∧ ∀ x ∈ ([] : List Addr), Safe Z own_EL U.vm h0 x) (fun _ _ _ _ _ => True) (fun _ U o U' => ∃ v L, o = .returned v ∧ Q_own_through Z a sp d sc ms tm km zl vsm wI wO wN h0 n0 v U'.vm U'.heap L ∧ CHr Z own_EL U.vm U.heap U'.vm U'.heap ∧ ReturnedEndW U o U' L ({ frames := 2, cells := 7, slots := 101, locals := 32 } : Room).cells ({ frames := 2, cells := 7, slots := 101, locals := 32 } : Room).slots) := by
  refine MetFree.of_bodySF (plainFor_of_name pn_com_example_object_access_rules_objectaccessrules_Result) hisR ?_
  intro p e s m args below meth c s₁ Bd hml0 hP hK
  obtain ⟨rfl, hZ, hh, hCH, hSL⟩ := hP
  have hx := Bd.exec
  have hby := Bd.bytes
  have hml : c.maxLocals = 2 := hml0
  have hown : s.vm.findClass "com/example/object_access_rules/objectaccessrules/Result" = some m.cls := findClass_of_methodNamed Bd.named
  have hnm := (name_of_methodNamed Bd.named Bd.method).1
  have X0 : Stand p l e ({ frames := 2, cells := 7, slots := 101, locals := 32 } : Room) (s.setVm s.vm) m #[(.ref a), (.ref sp)] below meth c s₁ [] 0 0 := Stand.of_body Bd
  have e0 : s₁.heap = h0 := by rw [← hh, Bd.state]; rfl
  have N0 := Fr.nil n0
  have zO := O0.1
  have zO2 := O0.2.1
  have fl_E_a : h0.size > a := f0_E_a.lt
  have fl_F_a_decision : h0.size > a := f0_F_a_decision.lt
  have fl_F_a_status : h0.size > a := f0_F_a_status.lt
  have fl_F_a_message : h0.size > a := f0_F_a_message.lt
  have fl_E_d : h0.size > d := f0_E_d.lt
  have fl_E_sc : h0.size > sc := f0_E_sc.lt
  have fl_E_ms : h0.size > ms := f0_E_ms.lt
  have fl_F_ms_value : h0.size > ms := f0_F_ms_value.lt
  have fl_A_tm : h0.size > tm := f0_A_tm.lt
  refine own_open (own_via (S' := s₁.setTop (mkF m 0 #[.val (.ref a), .val (.ref sp)] [])) (fun t k => castTop (ef_own_through m a sp) k) ?_)
  have hEL := own_EW hw
  have hS0 : s.Since s.vm h0.size := (State.WarmedH.refl s).since _
  have R0 : CHr Z own_EL s.vm h0 s.vm h0 := CHr.refl hCH
  have K0 : Keep h0 h0 [] := Keep.refl _ _
  have ne_a_d : a ≠ d := Exa.ne f0_E_a f0_E_d (by decide)
  have ne_a_sc : a ≠ sc := Exa.ne f0_E_a f0_E_sc (by decide)
  have ne_a_ms : a ≠ ms := Exa.ne f0_E_a f0_E_ms (by decide)
  have ne_a_tm : a ≠ tm := Exa.neArv f0_E_a f0_A_tm (wd2 hw)
  have ne_d_sc : d ≠ sc := Exa.ne f0_E_d f0_E_sc (by decide)
  have ne_d_ms : d ≠ ms := Exa.ne f0_E_d f0_E_ms (by decide)
  have ne_sc_ms : sc ≠ ms := Exa.ne f0_E_sc f0_E_ms (by decide)
  have ne_ms_tm : ms ≠ tm := Exa.neArv f0_E_ms f0_A_tm (wd22 hw)
  refine own_via (S' := s₁.setTop (mkF m 1 #[.val (.ref a), .val (.ref sp)] [(.ref a)])) (fun t k => XS.aloadN X0.here hx rfl (hb hby d19_0) rfl rfl k) ?_
  obtain ⟨T1, X1, e1, st1⟩ := getF X0 hx hZ hown (host := "") (Or.inl (wd44 hw)) Via.refl e0 f0_F_a_decision (g := (mkF m 1 #[.val (.ref a), .val (.ref sp)] [(.ref a)])) rfl rfl (hb hby d19_1)
  refine own_via (S' := T1.setTop (mkF m 4 #[.val (.ref a), .val (.ref sp)] [(.ref d)])) st1 ?_
  have cx2 : Sta Z h0 "com/example/object_access_rules/objectaccessrules/Decision" "NOT_APPLICABLE" "Lcom/example/object_access_rules/objectaccessrules/Decision;" (.ref wN) := zf_S_com_example_object_access_rules_objectaccessrules_Decision_NOT_APPLICABLE.ext O0.2
  obtain ⟨T3, X3, e3, st3⟩ := getS2 X1 hx hZ hown (host := "") (Or.inl (wd121 hw)) Via.refl e1 cx2 (g := (mkF m 4 #[.val (.ref a), .val (.ref sp)] [(.ref d)])) rfl (hb hby d19_4)
  refine own_via (S' := T3.setTop (mkF m 7 #[.val (.ref a), .val (.ref sp)] [(.ref wN), (.ref d)])) st3 ?_
  by_cases hc7_4 : d = wN
  · -- yes
    refine own_via (S' := T3.setTop (mkF m 10 #[.val (.ref a), .val (.ref sp)] [])) (fun t k => Jvm.RoadKit.acmp (g := (mkF m 7 #[.val (.ref a), .val (.ref sp)] [(.ref wN), (.ref d)])) X3 hx rfl rfl rfl (pc0 := 7) (pc' := 10) (same := true) rfl (hb hby d19_7) rfl (decide_eq_true (congrArg Value.ref hc7_4)) (by decide) (by decide) k) ?_
    refine own_via (S' := T3.setTop (mkF m 11 #[.val (.ref a), .val (.ref sp)] [(.ref a)])) (fun t k => XS.aloadN X3.here hx rfl (hb hby d19_10) rfl rfl k) ?_
    refine own_via (S' := T3.setTop (mkF m 35 #[.val (.ref a), .val (.ref sp)] [(.ref a)])) (fun t k => XS.goto X3.here hx rfl (pc0 := 11) (pc' := 35) rfl (hb hby d19_11) (by decide) (by decide) k) ?_
    have RTR0 : CHr Z own_EL s.vm h0 T3.vm h0 := R0.trans (CHv.at X3 hZ hEL R0.1)
    have RXR0 : CHr Z own_EL s.vm s.heap T3.vm T3.heap := by rw [hh, e3]; exact RTR0
    refine own_retW (Q := Q_own_through Z a sp d sc ms tm km zl vsm wI wO wN h0 n0) (C := ({ frames := 2, cells := 7, slots := 101, locals := 32 } : Room).cells) (N := ({ frames := 2, cells := 7, slots := 101, locals := 32 } : Room).slots) X3 hS0 (by rw [e3]; omega) (v := some (.ref a)) (fun h => by rw [Bd.returns] at h; cases h) Bd.notSynchronized ?_ RXR0 (by decide) (by decide) (fun fs hr => retOut X3 hx Bd.returns rfl (Or.inr (Or.inr (Or.inr (Or.inr ⟨rfl, rfl, rfl⟩)))) (hb hby d19_35) hr)
    show Q_own_through Z a sp d sc ms tm km zl vsm wI wO wN h0 n0 _ T3.vm T3.heap _
    rw [e3]
    exact ⟨a, rfl, N0, K0, f0_E_a, f0_F_a_decision, f0_F_a_status⟩
  · -- no
    refine own_via (S' := T3.setTop (mkF m 14 #[.val (.ref a), .val (.ref sp)] [])) (fun t k => Jvm.RoadKit.acmp (g := (mkF m 7 #[.val (.ref a), .val (.ref sp)] [(.ref wN), (.ref d)])) X3 hx rfl rfl rfl (pc0 := 7) (pc' := 14) (same := false) rfl (hb hby d19_7) rfl (decide_eq_false fun q => hc7_4 (Value.ref.inj q)) (by decide) (by decide) k) ?_
    obtain ⟨T5, h5, X5, e5, E5, A5, D5, -, st5⟩ := newO X3 hx hZ hown (wd98 hw) (wd2 hw) (wd3 hw) e3 (g := (mkF m 14 #[.val (.ref a), .val (.ref sp)] [])) rfl (hb hby d19_14) (by decide) (by decide)
    obtain ⟨b5, g5⟩ : ∃ z, z = h0.size := ⟨_, rfl⟩
    rw [← g5] at A5 D5 st5
    have lt_b5 : h5.size > b5 := A5.lt
    have sz6 : h0.size ≤ h5.size := E5.1
    have O7 : Old Z n0 h5 := O0.ext E5
    have R8 : CHr Z own_EL s.vm h0 s.vm h5 := R0.trans (CHr.ext E5 R0.1)
    have K9 : Keep h0 h5 [] := K0.ext E5
    have F5_decision : Fld Z h5 b5 "com/example/object_access_rules/objectaccessrules/Result" "decision" "Lcom/example/object_access_rules/objectaccessrules/Decision;" .null := D5 (Or.inr (wd45 hw)) (ty := (.object "com/example/object_access_rules/objectaccessrules/Decision")) (by decide)
    have F5_status : Fld Z h5 b5 "com/example/object_access_rules/objectaccessrules/Result" "status" "Lcom/example/object_access_rules/objectaccessrules/StatusCode;" .null := D5 (Or.inr (wd50 hw)) (ty := (.object "com/example/object_access_rules/objectaccessrules/StatusCode")) (by decide)
    have F5_message : Fld Z h5 b5 "com/example/object_access_rules/objectaccessrules/Result" "message" "Ljava/lang/String;" .null := D5 (Or.inr (wd55 hw)) (ty := (.object "java/lang/String")) (by decide)
    have F5_step : Fld Z h5 b5 "com/example/object_access_rules/objectaccessrules/Result" "step" "Ljava/lang/String;" .null := D5 (Or.inr (wd66 hw)) (ty := (.object "java/lang/String")) (by decide)
    have F5_below : Fld Z h5 b5 "com/example/object_access_rules/objectaccessrules/Result" "below" "Lcom/example/object_access_rules/objectaccessrules/Result;" .null := D5 (Or.inr (wd68 hw)) (ty := (.object "com/example/object_access_rules/objectaccessrules/Result")) (by decide)
    refine own_via (S' := T5.setTop (mkF m 17 #[.val (.ref a), .val (.ref sp)] [(.ref b5)])) st5 ?_
    refine own_via (S' := T5.setTop (mkF m 18 #[.val (.ref a), .val (.ref sp)] [(.ref b5), (.ref b5)])) (fun t k => XS.dup X5.here hx rfl (hb hby d19_17) rfl rfl k) ?_
    refine own_via (S' := T5.setTop (mkF m 19 #[.val (.ref a), .val (.ref sp)] [(.ref a), (.ref b5), (.ref b5)])) (fun t k => XS.aloadN X5.here hx rfl (hb hby d19_18) rfl rfl k) ?_
    have cx10 : Fld Z h5 a "com/example/object_access_rules/objectaccessrules/Result" "decision" "Lcom/example/object_access_rules/objectaccessrules/Decision;" (.ref d) := (f0_F_a_decision.ext E5)
    obtain ⟨T11, X11, e11, st11⟩ := getF X5 hx hZ hown (host := "") (Or.inl (wd44 hw)) Via.refl e5 cx10 (g := (mkF m 19 #[.val (.ref a), .val (.ref sp)] [(.ref a), (.ref b5), (.ref b5)])) rfl rfl (hb hby d19_19)
    refine own_via (S' := T11.setTop (mkF m 22 #[.val (.ref a), .val (.ref sp)] [(.ref d), (.ref b5), (.ref b5)])) st11 ?_
    refine own_via (S' := T11.setTop (mkF m 23 #[.val (.ref a), .val (.ref sp)] [(.ref a), (.ref d), (.ref b5), (.ref b5)])) (fun t k => XS.aloadN X11.here hx rfl (hb hby d19_22) rfl rfl k) ?_
    have cx12 : Fld Z h5 a "com/example/object_access_rules/objectaccessrules/Result" "status" "Lcom/example/object_access_rules/objectaccessrules/StatusCode;" (.ref sc) := (f0_F_a_status.ext E5)
    obtain ⟨T13, X13, e13, st13⟩ := getF X11 hx hZ hown (host := "") (Or.inl (wd49 hw)) Via.refl e11 cx12 (g := (mkF m 23 #[.val (.ref a), .val (.ref sp)] [(.ref a), (.ref d), (.ref b5), (.ref b5)])) rfl rfl (hb hby d19_23)
    refine own_via (S' := T13.setTop (mkF m 26 #[.val (.ref a), .val (.ref sp)] [(.ref sc), (.ref d), (.ref b5), (.ref b5)])) st13 ?_
    refine own_via (S' := T13.setTop (mkF m 27 #[.val (.ref a), .val (.ref sp)] [(.ref a), (.ref sc), (.ref d), (.ref b5), (.ref b5)])) (fun t k => XS.aloadN X13.here hx rfl (hb hby d19_26) rfl rfl k) ?_
    have cx14 : Fld Z h5 a "com/example/object_access_rules/objectaccessrules/Result" "message" "Ljava/lang/String;" (.ref ms) := (f0_F_a_message.ext E5)
    obtain ⟨T15, X15, e15, st15⟩ := getF X13 hx hZ hown (host := "") (Or.inl (wd54 hw)) Via.refl e13 cx14 (g := (mkF m 27 #[.val (.ref a), .val (.ref sp)] [(.ref a), (.ref sc), (.ref d), (.ref b5), (.ref b5)])) rfl rfl (hb hby d19_27)
    refine own_via (S' := T15.setTop (mkF m 30 #[.val (.ref a), .val (.ref sp)] [(.ref ms), (.ref sc), (.ref d), (.ref b5), (.ref b5)])) st15 ?_
    refine own_via (S' := T15.setTop (mkF m 31 #[.val (.ref a), .val (.ref sp)] [(.ref sp), (.ref ms), (.ref sc), (.ref d), (.ref b5), (.ref b5)])) (fun t k => XS.aloadN X15.here hx rfl (hb hby d19_30) rfl rfl k) ?_
    refine own_via (S' := T15.setTop (mkF m 32 #[.val (.ref a), .val (.ref sp)] [(.ref a), (.ref sp), (.ref ms), (.ref sc), (.ref d), (.ref b5), (.ref b5)])) (fun t k => XS.aloadN X15.here hx rfl (hb hby d19_31) rfl rfl k) ?_
    have cx17 : Exa Z h5 d "com/example/object_access_rules/objectaccessrules/Decision" := (f0_E_d.ext E5)
    have cx18 : Exa Z h5 sc "com/example/object_access_rules/objectaccessrules/StatusCode" := (f0_E_sc.ext E5)
    have cx19 : Exa Z h5 ms "java/lang/String" := (f0_E_ms.ext E5)
    have cx20 : Fld Z h5 ms "java/lang/String" "value" "[B" (.ref tm) := (f0_F_ms_value.ext E5)
    have cx21 : Arv Z h5 tm km .byte zl vsm (.int (0 : Int32)) := (f0_A_tm.ext E5)
    have hk16 : h0.size ≤ T15.heap.size := by rw [e15]; omega
    obtain ⟨_, _, ⟨T16, Lp16, kp16, np16⟩, -, X16, hS16, hgr16, ⟨Lc16, ⟨hQ16, R16q⟩, l16, y16, z16⟩, st16⟩ := X15.specialBackS hx (y := mt2) rfl hown (mvT hZ (wd31 hw)) (mvT hZ (wd32 hw)) (mvT hZ (wd33 hw)) (by decide) (own_backW (SL := []) (W := 1) (own_r5R l Z a0 hw [] b5 d sc ms sp a tm km zl vsm wI wO h5 n0 O7 zf_S_com_example_object_access_rules_objectaccessrules_Decision_INDETERMINATE zf_S_com_example_object_access_rules_objectaccessrules_StatusCode_OK A5 F5_decision F5_status F5_message F5_step F5_below cx17 cx18 cx19 cx20 cx21 (by first | assumption | exact Ne.symm (by assumption) | omega | decide | exact Nat.le_of_ble_eq_true rfl) (by first | assumption | exact Ne.symm (by assumption) | omega | decide | exact Nat.le_of_ble_eq_true rfl)) hZ (wd33 hw) (wd3 hw) (by decide) (by decide) hEL R8.1 all0) (g := (mkF m 32 #[.val (.ref a), .val (.ref sp)] [(.ref a), (.ref sp), (.ref ms), (.ref sc), (.ref d), (.ref b5), (.ref b5)])) rfl (by rw [hml]; rfl) (Steps.refl _) (a := b5) (argsL := [(.ref d), (.ref sc), (.ref ms), (.ref sp), (.ref a)]) (rest := [(.ref b5)]) (lenOf pd__Lcom_example_object_access_rules_objectaccessrules_Decision_Lcom_example_object_access_rules_objectaccessrules_StatusCode_Ljava_lang_String_Ljava_lang_String_Lcom_example_object_access_rules_objectaccessrules_Result__V_1701 rfl) rfl (by show 2 * 0 + _ ≤ _; exact Nat.le_of_eq rfl) (hb hby d19_32) (fun _ _ => ⟨rfl, e15, (by decide : 1 + 6 ≤ _), (by decide : 5 + 96 ≤ _)⟩)
    dsimp only [Pt.U, Pt.locs, Pt.cells, Pt.slots] at X16 l16 y16 z16 st16 hQ16 hS16 hgr16 R16q
    subst Lp16 kp16 np16
    obtain ⟨X16, hSn16, hZ, hown⟩ := rebS hS0 hk16 X16 hS16 hgr16 hZ hown
    obtain ⟨rfl, N16q, K16q, f16_0, f16_1, f16_2, f16_3, f16_4⟩ := hQ16
    have N16 := Fr.app N0 N16q
    have sz22 : h5.size ≤ T16.heap.size := K16q.1
    have R23 : CHr Z own_EL s.vm h0 T16.vm T16.heap := R8.trans R16q
    have O24 : Old Z n0 T16.heap := O7.keep K16q (allS (by omega : n0 ≤ b5) all0)
    have K25 : Keep h0 T16.heap [] := K9.trans K16q (allS (P := fun x => x ∈ [] ∨ h0.size ≤ x) (Or.inr (by omega)) all0)
    refine own_tr (S' := T16.setTop (mkF m 35 #[.val (.ref a), .val (.ref sp)] [(.ref b5)])) st16 ?_
    have cx26 : Exa Z T16.heap b5 "com/example/object_access_rules/objectaccessrules/Result" := (A5.keep K16q)
    have RTR23 : CHr Z own_EL s.vm h0 T16.vm T16.heap := R23.trans (CHv.at X16 hZ hEL R23.1)
    have RXR23 : CHr Z own_EL s.vm s.heap T16.vm T16.heap := by rw [hh]; exact RTR23
    refine own_retW (Q := Q_own_through Z a sp d sc ms tm km zl vsm wI wO wN h0 n0) (C := ({ frames := 2, cells := 7, slots := 101, locals := 32 } : Room).cells) (N := ({ frames := 2, cells := 7, slots := 101, locals := 32 } : Room).slots) X16 hSn16 (by omega) (v := some (.ref b5)) (fun h => by rw [Bd.returns] at h; cases h) Bd.notSynchronized ?_ RXR23 (by decide) (by decide) (fun fs hr => retOut X16 hx Bd.returns rfl (Or.inr (Or.inr (Or.inr (Or.inr ⟨rfl, rfl, rfl⟩)))) (hb hby d19_35) hr)
    show Q_own_through Z a sp d sc ms tm km zl vsm wI wO wN h0 n0 _ T16.vm T16.heap _
    exact ⟨b5, rfl, N16, K25, cx26, f16_0, f16_1⟩
def Q_own_eqR (Z : State) (a : Addr) (b : Addr) (d1 : Addr) (s1 : Addr) (d2 : Addr) (s2 : Addr) (h0 : Heap) (n0 : Nat) (v : Option Value) (h : Heap) (L : List Loc) : Prop := ∃ z : Int32, v = some (.int z) ∧ L = [] ∧ h = h0 ∧ (z = (if d1 = d2 then (if s1 = s2 then (1 : Int32) else (0 : Int32)) else (0 : Int32)))
set_option maxRecDepth 65536 in
set_option maxHeartbeats 40000000 in
theorem own_eqR (l : Launch) (Z : State) (a0 : Array Value) (hw : ∀ d ∈ tables_1, d.before a0 Z = true) (ws : List Jvm.Cond) (a : Addr) (b : Addr) (d1 : Addr) (s1 : Addr) (d2 : Addr) (s2 : Addr) (h0 : Heap) (n0 : Nat) (O0 : Old Z n0 h0) (f0_F_a_decision : Fld Z h0 a "com/example/object_access_rules/objectaccessrules/Result" "decision" "Lcom/example/object_access_rules/objectaccessrules/Decision;" (.ref d1)) (f0_F_a_status : Fld Z h0 a "com/example/object_access_rules/objectaccessrules/Result" "status" "Lcom/example/object_access_rules/objectaccessrules/StatusCode;" (.ref s1)) (f0_F_b_decision : Fld Z h0 b "com/example/object_access_rules/objectaccessrules/Result" "decision" "Lcom/example/object_access_rules/objectaccessrules/Decision;" (.ref d2)) (f0_F_b_status : Fld Z h0 b "com/example/object_access_rules/objectaccessrules/Result" "status" "Lcom/example/object_access_rules/objectaccessrules/StatusCode;" (.ref s2)) (f0_E_b : Exa Z h0 b "com/example/object_access_rules/objectaccessrules/Result") :
    MetFree l mt13 (head1 (Jvm.Cond.code mt13 prog_37_method_16_code 3 (some .boolean) :: ws) ({ frames := 0, cells := 0, slots := 0, locals := 0 } : Room)) (fun aq U => aq = #[(.ref a), (.ref b)] ∧ Z.Warmed39 U.vm ∧ U.heap = h0) (fun _ _ _ _ _ => True) (fun _ U o U' => ∃ v L, o = .returned v ∧ Q_own_eqR Z a b d1 s1 d2 s2 h0 n0 v U'.heap L ∧ FrameEnd U o U' L ({ frames := 0, cells := 0, slots := 0, locals := 0 } : Room).cells ({ frames := 0, cells := 0, slots := 0, locals := 0 } : Room).slots) := by
  refine MetFree.of_bodySF (plainFor_of_name pn_com_example_object_access_rules_objectaccessrules_Result) hisR ?_
  intro p e s m args below meth c s₁ Bd hml0 hP hK
  obtain ⟨rfl, hZ, hh⟩ := hP
  have hx := Bd.exec
  have hby := Bd.bytes
  have hml : c.maxLocals = 3 := hml0
  have hown : s.vm.findClass "com/example/object_access_rules/objectaccessrules/Result" = some m.cls := findClass_of_methodNamed Bd.named
  have hnm := (name_of_methodNamed Bd.named Bd.method).1
  have X0 : Stand p l e ({ frames := 0, cells := 0, slots := 0, locals := 0 } : Room) s m #[(.ref a), (.ref b)] below meth c s₁ [] 0 0 := Stand.of_body Bd
  have e0 : s₁.heap = h0 := by rw [← hh, Bd.state]; rfl
  have N0 := Fr.nil n0
  have zO := O0.1
  have zO2 := O0.2.1
  have fl_F_a_decision : h0.size > a := f0_F_a_decision.lt
  have fl_F_a_status : h0.size > a := f0_F_a_status.lt
  have fl_F_b_decision : h0.size > b := f0_F_b_decision.lt
  have fl_F_b_status : h0.size > b := f0_F_b_status.lt
  have fl_E_b : h0.size > b := f0_E_b.lt
  refine own_open (own_via (S' := s₁.setTop (mkF m 0 #[.val (.ref a), .val (.ref b), .unset] [])) (fun t k => castTop (ef_own_eqR m a b) k) ?_)
  refine own_via (S' := s₁.setTop (mkF m 1 #[.val (.ref a), .val (.ref b), .unset] [(.ref b)])) (fun t k => XS.aloadN X0.here hx rfl (hb hby d14_0) rfl rfl k) ?_
  obtain ⟨T1, X1, e1, st1⟩ := instY X0 hx hZ hown (wd98 hw) e0 (Ins.self f0_E_b) (g := (mkF m 1 #[.val (.ref a), .val (.ref b), .unset] [(.ref b)])) rfl rfl (hb hby d14_1)
  refine own_via (S' := T1.setTop (mkF m 4 #[.val (.ref a), .val (.ref b), .unset] [(.int (1 : Int32))])) st1 ?_
  refine own_via (S' := T1.setTop (mkF m 7 #[.val (.ref a), .val (.ref b), .unset] [])) (fun t k => XS.ifNo X1.here hx rfl (hb hby d14_4) rfl ((if0 _ _).trans (feq (by decide : ¬ ((1 : Int32) = (0 : Int32)))).1) k) ?_
  refine own_via (S' := T1.setTop (mkF m 8 #[.val (.ref a), .val (.ref b), .unset] [(.ref b)])) (fun t k => XS.aloadN X1.here hx rfl (hb hby d14_7) rfl rfl k) ?_
  obtain ⟨T2, X2, e2, st2⟩ := castY X1 hx hZ hown (wd98 hw) e1 (Ins.self f0_E_b) (g := (mkF m 8 #[.val (.ref a), .val (.ref b), .unset] [(.ref b)])) rfl rfl (hb hby d14_8)
  refine own_via (S' := T2.setTop (mkF m 11 #[.val (.ref a), .val (.ref b), .unset] [(.ref b)])) st2 ?_
  refine own_via (S' := T2.setTop (mkF m 12 #[.val (.ref a), .val (.ref b), .val (.ref b)] [])) (fun t k => XS.astoreN X2.here hx rfl (hb hby d14_11) rfl rfl (l' := #[.val (.ref a), .val (.ref b), .val (.ref b)]) rfl k) ?_
  refine own_via (S' := T2.setTop (mkF m 13 #[.val (.ref a), .val (.ref b), .val (.ref b)] [(.ref a)])) (fun t k => XS.aloadN X2.here hx rfl (hb hby d14_12) rfl rfl k) ?_
  obtain ⟨T3, X3, e3, st3⟩ := getF X2 hx hZ hown (host := "") (Or.inl (wd44 hw)) Via.refl e2 f0_F_a_decision (g := (mkF m 13 #[.val (.ref a), .val (.ref b), .val (.ref b)] [(.ref a)])) rfl rfl (hb hby d14_13)
  refine own_via (S' := T3.setTop (mkF m 16 #[.val (.ref a), .val (.ref b), .val (.ref b)] [(.ref d1)])) st3 ?_
  refine own_via (S' := T3.setTop (mkF m 17 #[.val (.ref a), .val (.ref b), .val (.ref b)] [(.ref b), (.ref d1)])) (fun t k => XS.aloadN X3.here hx rfl (hb hby d14_16) rfl rfl k) ?_
  obtain ⟨T4, X4, e4, st4⟩ := getF X3 hx hZ hown (host := "") (Or.inl (wd44 hw)) Via.refl e3 f0_F_b_decision (g := (mkF m 17 #[.val (.ref a), .val (.ref b), .val (.ref b)] [(.ref b), (.ref d1)])) rfl rfl (hb hby d14_17)
  refine own_via (S' := T4.setTop (mkF m 20 #[.val (.ref a), .val (.ref b), .val (.ref b)] [(.ref d2), (.ref d1)])) st4 ?_
  by_cases hc20_5 : d1 = d2
  · -- yes
    refine own_via (S' := T4.setTop (mkF m 23 #[.val (.ref a), .val (.ref b), .val (.ref b)] [])) (fun t k => Jvm.RoadKit.acmp (g := (mkF m 20 #[.val (.ref a), .val (.ref b), .val (.ref b)] [(.ref d2), (.ref d1)])) X4 hx rfl rfl rfl (pc0 := 20) (pc' := 23) (same := true) rfl (hb hby d14_20) rfl (decide_eq_true (congrArg Value.ref hc20_5)) (by decide) (by decide) k) ?_
    refine own_via (S' := T4.setTop (mkF m 24 #[.val (.ref a), .val (.ref b), .val (.ref b)] [(.ref a)])) (fun t k => XS.aloadN X4.here hx rfl (hb hby d14_23) rfl rfl k) ?_
    obtain ⟨T6, X6, e6, st6⟩ := getF X4 hx hZ hown (host := "") (Or.inl (wd49 hw)) Via.refl e4 f0_F_a_status (g := (mkF m 24 #[.val (.ref a), .val (.ref b), .val (.ref b)] [(.ref a)])) rfl rfl (hb hby d14_24)
    refine own_via (S' := T6.setTop (mkF m 27 #[.val (.ref a), .val (.ref b), .val (.ref b)] [(.ref s1)])) st6 ?_
    refine own_via (S' := T6.setTop (mkF m 28 #[.val (.ref a), .val (.ref b), .val (.ref b)] [(.ref b), (.ref s1)])) (fun t k => XS.aloadN X6.here hx rfl (hb hby d14_27) rfl rfl k) ?_
    obtain ⟨T7, X7, e7, st7⟩ := getF X6 hx hZ hown (host := "") (Or.inl (wd49 hw)) Via.refl e6 f0_F_b_status (g := (mkF m 28 #[.val (.ref a), .val (.ref b), .val (.ref b)] [(.ref b), (.ref s1)])) rfl rfl (hb hby d14_28)
    refine own_via (S' := T7.setTop (mkF m 31 #[.val (.ref a), .val (.ref b), .val (.ref b)] [(.ref s2), (.ref s1)])) st7 ?_
    by_cases hc31_8 : s1 = s2
    · -- yes
      refine own_via (S' := T7.setTop (mkF m 34 #[.val (.ref a), .val (.ref b), .val (.ref b)] [])) (fun t k => Jvm.RoadKit.acmp (g := (mkF m 31 #[.val (.ref a), .val (.ref b), .val (.ref b)] [(.ref s2), (.ref s1)])) X7 hx rfl rfl rfl (pc0 := 31) (pc' := 34) (same := true) rfl (hb hby d14_31) rfl (decide_eq_true (congrArg Value.ref hc31_8)) (by decide) (by decide) k) ?_
      refine own_via (S' := T7.setTop (mkF m 35 #[.val (.ref a), .val (.ref b), .val (.ref b)] [(.int (1 : Int32))])) (fun t k => XS.iconst X7.here hx rfl (hb hby d14_34) k) ?_
      refine own_via (S' := T7.setTop (mkF m 39 #[.val (.ref a), .val (.ref b), .val (.ref b)] [(.int (1 : Int32))])) (fun t k => XS.goto X7.here hx rfl (pc0 := 35) (pc' := 39) rfl (hb hby d14_35) (by decide) (by decide) k) ?_
      refine own_ret (Q := Q_own_eqR Z a b d1 s1 d2 s2 h0 n0) (C := ({ frames := 0, cells := 0, slots := 0, locals := 0 } : Room).cells) (N := ({ frames := 0, cells := 0, slots := 0, locals := 0 } : Room).slots) X7 (v := some (.int (1 : Int32))) (fun h => by rw [Bd.returns] at h; cases h) Bd.notSynchronized ?_ (by decide) (by decide) (fun fs hr => retN X7 hx (t := .boolean) Bd.returns (by simp) (hb hby d14_39) hr)
      show Q_own_eqR Z a b d1 s1 d2 s2 h0 n0 _ T7.heap _
      rw [e7]
      exact ⟨(1 : Int32), rfl, rfl, rfl, (((if_pos hc20_5).trans (if_pos hc31_8))).symm⟩
    · -- no
      refine own_via (S' := T7.setTop (mkF m 38 #[.val (.ref a), .val (.ref b), .val (.ref b)] [])) (fun t k => Jvm.RoadKit.acmp (g := (mkF m 31 #[.val (.ref a), .val (.ref b), .val (.ref b)] [(.ref s2), (.ref s1)])) X7 hx rfl rfl rfl (pc0 := 31) (pc' := 38) (same := false) rfl (hb hby d14_31) rfl (decide_eq_false fun q => hc31_8 (Value.ref.inj q)) (by decide) (by decide) k) ?_
      refine own_via (S' := T7.setTop (mkF m 39 #[.val (.ref a), .val (.ref b), .val (.ref b)] [(.int (0 : Int32))])) (fun t k => XS.iconst X7.here hx rfl (hb hby d14_38) k) ?_
      refine own_ret (Q := Q_own_eqR Z a b d1 s1 d2 s2 h0 n0) (C := ({ frames := 0, cells := 0, slots := 0, locals := 0 } : Room).cells) (N := ({ frames := 0, cells := 0, slots := 0, locals := 0 } : Room).slots) X7 (v := some (.int (0 : Int32))) (fun h => by rw [Bd.returns] at h; cases h) Bd.notSynchronized ?_ (by decide) (by decide) (fun fs hr => retN X7 hx (t := .boolean) Bd.returns (by simp) (hb hby d14_39) hr)
      show Q_own_eqR Z a b d1 s1 d2 s2 h0 n0 _ T7.heap _
      rw [e7]
      exact ⟨(0 : Int32), rfl, rfl, rfl, (((if_pos hc20_5).trans (if_neg hc31_8))).symm⟩
  · -- no
    refine own_via (S' := T4.setTop (mkF m 38 #[.val (.ref a), .val (.ref b), .val (.ref b)] [])) (fun t k => Jvm.RoadKit.acmp (g := (mkF m 20 #[.val (.ref a), .val (.ref b), .val (.ref b)] [(.ref d2), (.ref d1)])) X4 hx rfl rfl rfl (pc0 := 20) (pc' := 38) (same := false) rfl (hb hby d14_20) rfl (decide_eq_false fun q => hc20_5 (Value.ref.inj q)) (by decide) (by decide) k) ?_
    refine own_via (S' := T4.setTop (mkF m 39 #[.val (.ref a), .val (.ref b), .val (.ref b)] [(.int (0 : Int32))])) (fun t k => XS.iconst X4.here hx rfl (hb hby d14_38) k) ?_
    refine own_ret (Q := Q_own_eqR Z a b d1 s1 d2 s2 h0 n0) (C := ({ frames := 0, cells := 0, slots := 0, locals := 0 } : Room).cells) (N := ({ frames := 0, cells := 0, slots := 0, locals := 0 } : Room).slots) X4 (v := some (.int (0 : Int32))) (fun h => by rw [Bd.returns] at h; cases h) Bd.notSynchronized ?_ (by decide) (by decide) (fun fs hr => retN X4 hx (t := .boolean) Bd.returns (by simp) (hb hby d14_39) hr)
    show Q_own_eqR Z a b d1 s1 d2 s2 h0 n0 _ T4.heap _
    rw [e4]
    exact ⟨(0 : Int32), rfl, rfl, rfl, ((if_neg hc20_5)).symm⟩
def Q_own_eqN (Z : State) (a : Addr) (h0 : Heap) (n0 : Nat) (v : Option Value) (h : Heap) (L : List Loc) : Prop := v = some (.int (0 : Int32)) ∧ L = [] ∧ h = h0
set_option maxRecDepth 65536 in
set_option maxHeartbeats 40000000 in
theorem own_eqN (l : Launch) (Z : State) (a0 : Array Value) (hw : ∀ d ∈ tables_1, d.before a0 Z = true) (ws : List Jvm.Cond) (a : Addr) (h0 : Heap) (n0 : Nat) (O0 : Old Z n0 h0) :
    MetFree l mt13 (head1 (Jvm.Cond.code mt13 prog_37_method_16_code 3 (some .boolean) :: ws) ({ frames := 0, cells := 0, slots := 0, locals := 0 } : Room)) (fun aq U => aq = #[(.ref a), .null] ∧ Z.Warmed39 U.vm ∧ U.heap = h0) (fun _ _ _ _ _ => True) (fun _ U o U' => ∃ v L, o = .returned v ∧ Q_own_eqN Z a h0 n0 v U'.heap L ∧ FrameEnd U o U' L ({ frames := 0, cells := 0, slots := 0, locals := 0 } : Room).cells ({ frames := 0, cells := 0, slots := 0, locals := 0 } : Room).slots) := by
  refine MetFree.of_bodySF (plainFor_of_name pn_com_example_object_access_rules_objectaccessrules_Result) hisR ?_
  intro p e s m args below meth c s₁ Bd hml0 hP hK
  obtain ⟨rfl, hZ, hh⟩ := hP
  have hx := Bd.exec
  have hby := Bd.bytes
  have hml : c.maxLocals = 3 := hml0
  have hown : s.vm.findClass "com/example/object_access_rules/objectaccessrules/Result" = some m.cls := findClass_of_methodNamed Bd.named
  have hnm := (name_of_methodNamed Bd.named Bd.method).1
  have X0 : Stand p l e ({ frames := 0, cells := 0, slots := 0, locals := 0 } : Room) s m #[(.ref a), .null] below meth c s₁ [] 0 0 := Stand.of_body Bd
  have e0 : s₁.heap = h0 := by rw [← hh, Bd.state]; rfl
  have N0 := Fr.nil n0
  have zO := O0.1
  have zO2 := O0.2.1
  refine own_open (own_via (S' := s₁.setTop (mkF m 0 #[.val (.ref a), .val .null, .unset] [])) (fun t k => castTop (ef_own_eqN m a) k) ?_)
  refine own_via (S' := s₁.setTop (mkF m 1 #[.val (.ref a), .val .null, .unset] [.null])) (fun t k => XS.aloadN X0.here hx rfl (hb hby d14_0) rfl rfl k) ?_
  refine own_via (S' := s₁.setTop (mkF m 4 #[.val (.ref a), .val .null, .unset] [(.int (0 : Int32))])) (fun t k => X0.instanceofNull hx (g := (mkF m 1 #[.val (.ref a), .val .null, .unset] [.null])) rfl rfl (hb hby d14_1) _ k) ?_
  refine own_via (S' := s₁.setTop (mkF m 38 #[.val (.ref a), .val .null, .unset] [])) (fun t k => XS.ifYes X0.here hx rfl (pc0 := 4) (pc' := 38) rfl (hb hby d14_4) rfl ((if0 _ _).trans (teq (by decide : (0 : Int32) = (0 : Int32))).1) (by decide) (by decide) k) ?_
  refine own_via (S' := s₁.setTop (mkF m 39 #[.val (.ref a), .val .null, .unset] [(.int (0 : Int32))])) (fun t k => XS.iconst X0.here hx rfl (hb hby d14_38) k) ?_
  refine own_ret (Q := Q_own_eqN Z a h0 n0) (C := ({ frames := 0, cells := 0, slots := 0, locals := 0 } : Room).cells) (N := ({ frames := 0, cells := 0, slots := 0, locals := 0 } : Room).slots) X0 (v := some (.int (0 : Int32))) (fun h => by rw [Bd.returns] at h; cases h) Bd.notSynchronized ?_ (by decide) (by decide) (fun fs hr => retN X0 hx (t := .boolean) Bd.returns (by simp) (hb hby d14_39) hr)
  show Q_own_eqN Z a h0 n0 _ s₁.heap _
  rw [e0]
  exact ⟨rfl, rfl, rfl⟩
def Q_own_eqS (Z : State) (a : Addr) (b : Addr) (h0 : Heap) (n0 : Nat) (v : Option Value) (h : Heap) (L : List Loc) : Prop := v = some (.int (0 : Int32)) ∧ L = [] ∧ h = h0
set_option maxRecDepth 65536 in
set_option maxHeartbeats 40000000 in
theorem own_eqS (l : Launch) (Z : State) (a0 : Array Value) (hw : ∀ d ∈ tables_1, d.before a0 Z = true) (ws : List Jvm.Cond) (a : Addr) (b : Addr) (h0 : Heap) (n0 : Nat) (O0 : Old Z n0 h0) (f0_E_b : Exa Z h0 b "java/lang/String") :
    MetFree l mt13 (head1 (Jvm.Cond.code mt13 prog_37_method_16_code 3 (some .boolean) :: ws) ({ frames := 0, cells := 0, slots := 0, locals := 0 } : Room)) (fun aq U => aq = #[(.ref a), (.ref b)] ∧ Z.Warmed39 U.vm ∧ U.heap = h0) (fun _ _ _ _ _ => True) (fun _ U o U' => ∃ v L, o = .returned v ∧ Q_own_eqS Z a b h0 n0 v U'.heap L ∧ FrameEnd U o U' L ({ frames := 0, cells := 0, slots := 0, locals := 0 } : Room).cells ({ frames := 0, cells := 0, slots := 0, locals := 0 } : Room).slots) := by
  refine MetFree.of_bodySF (plainFor_of_name pn_com_example_object_access_rules_objectaccessrules_Result) hisR ?_
  intro p e s m args below meth c s₁ Bd hml0 hP hK
  obtain ⟨rfl, hZ, hh⟩ := hP
  have hx := Bd.exec
  have hby := Bd.bytes
  have hml : c.maxLocals = 3 := hml0
  have hown : s.vm.findClass "com/example/object_access_rules/objectaccessrules/Result" = some m.cls := findClass_of_methodNamed Bd.named
  have hnm := (name_of_methodNamed Bd.named Bd.method).1
  have X0 : Stand p l e ({ frames := 0, cells := 0, slots := 0, locals := 0 } : Room) s m #[(.ref a), (.ref b)] below meth c s₁ [] 0 0 := Stand.of_body Bd
  have e0 : s₁.heap = h0 := by rw [← hh, Bd.state]; rfl
  have N0 := Fr.nil n0
  have zO := O0.1
  have zO2 := O0.2.1
  have fl_E_b : h0.size > b := f0_E_b.lt
  refine own_open (own_via (S' := s₁.setTop (mkF m 0 #[.val (.ref a), .val (.ref b), .unset] [])) (fun t k => castTop (ef_own_eqS m a b) k) ?_)
  refine own_via (S' := s₁.setTop (mkF m 1 #[.val (.ref a), .val (.ref b), .unset] [(.ref b)])) (fun t k => XS.aloadN X0.here hx rfl (hb hby d14_0) rfl rfl k) ?_
  obtain ⟨T1, X1, e1, st1⟩ := instNo X0 hx hZ hown (wd98 hw) e0 f0_E_b (own_notRes hw) (g := (mkF m 1 #[.val (.ref a), .val (.ref b), .unset] [(.ref b)])) rfl rfl (hb hby d14_1)
  refine own_via (S' := T1.setTop (mkF m 4 #[.val (.ref a), .val (.ref b), .unset] [(.int (0 : Int32))])) st1 ?_
  refine own_via (S' := T1.setTop (mkF m 38 #[.val (.ref a), .val (.ref b), .unset] [])) (fun t k => XS.ifYes X1.here hx rfl (pc0 := 4) (pc' := 38) rfl (hb hby d14_4) rfl ((if0 _ _).trans (teq (by decide : (0 : Int32) = (0 : Int32))).1) (by decide) (by decide) k) ?_
  refine own_via (S' := T1.setTop (mkF m 39 #[.val (.ref a), .val (.ref b), .unset] [(.int (0 : Int32))])) (fun t k => XS.iconst X1.here hx rfl (hb hby d14_38) k) ?_
  refine own_ret (Q := Q_own_eqS Z a b h0 n0) (C := ({ frames := 0, cells := 0, slots := 0, locals := 0 } : Room).cells) (N := ({ frames := 0, cells := 0, slots := 0, locals := 0 } : Room).slots) X1 (v := some (.int (0 : Int32))) (fun h => by rw [Bd.returns] at h; cases h) Bd.notSynchronized ?_ (by decide) (by decide) (fun fs hr => retN X1 hx (t := .boolean) Bd.returns (by simp) (hb hby d14_39) hr)
  show Q_own_eqS Z a b h0 n0 _ T1.heap _
  rw [e1]
  exact ⟨rfl, rfl, rfl⟩
def Q_own_law (Z : State) (p0 : Int32) (p1 : Int32) (p2 : Int32) (p3 : Int32) (p4 : Int32) (zc : Int32) (wP : Addr) (wD : Addr) (wN : Addr) (wI : Addr) (wO : Addr) (wM : Addr) (wG : Addr) (wY : Addr) (h0 : Heap) (n0 : Nat) (v : Option Value) (vm : Vm) (h : Heap) (L : List Loc) : Prop := v = some (.int (1 : Int32)) ∧ Fr n0 L
set_option maxRecDepth 65536 in
set_option maxHeartbeats 40000000 in
theorem own_law (l : Launch) (Z : State) (a0 : Array Value) (hw : ∀ d ∈ tables_1, d.before a0 Z = true) (ws : List Jvm.Cond) (p0 : Int32) (p1 : Int32) (p2 : Int32) (p3 : Int32) (p4 : Int32) (zc : Int32) (wP : Addr) (wD : Addr) (wN : Addr) (wI : Addr) (wO : Addr) (wM : Addr) (wG : Addr) (wY : Addr) (h0 : Heap) (n0 : Nat) (O0 : Old Z n0 h0) (zf_S_java_lang_String_COMPACT_STRINGS : Sta Z Z.heap "java/lang/String" "COMPACT_STRINGS" "Z" (.int zc)) (zf_S_com_example_object_access_rules_objectaccessrules_Decision_PERMIT : Sta Z Z.heap "com/example/object_access_rules/objectaccessrules/Decision" "PERMIT" "Lcom/example/object_access_rules/objectaccessrules/Decision;" (.ref wP)) (zf_S_com_example_object_access_rules_objectaccessrules_Decision_DENY : Sta Z Z.heap "com/example/object_access_rules/objectaccessrules/Decision" "DENY" "Lcom/example/object_access_rules/objectaccessrules/Decision;" (.ref wD)) (zf_S_com_example_object_access_rules_objectaccessrules_Decision_NOT_APPLICABLE : Sta Z Z.heap "com/example/object_access_rules/objectaccessrules/Decision" "NOT_APPLICABLE" "Lcom/example/object_access_rules/objectaccessrules/Decision;" (.ref wN)) (zf_S_com_example_object_access_rules_objectaccessrules_Decision_INDETERMINATE : Sta Z Z.heap "com/example/object_access_rules/objectaccessrules/Decision" "INDETERMINATE" "Lcom/example/object_access_rules/objectaccessrules/Decision;" (.ref wI)) (zf_E_wP : Exa Z Z.heap wP "com/example/object_access_rules/objectaccessrules/Decision") (zf_E_wD : Exa Z Z.heap wD "com/example/object_access_rules/objectaccessrules/Decision") (zf_E_wN : Exa Z Z.heap wN "com/example/object_access_rules/objectaccessrules/Decision") (zf_E_wI : Exa Z Z.heap wI "com/example/object_access_rules/objectaccessrules/Decision") (zf_S_com_example_object_access_rules_objectaccessrules_StatusCode_OK : Sta Z Z.heap "com/example/object_access_rules/objectaccessrules/StatusCode" "OK" "Lcom/example/object_access_rules/objectaccessrules/StatusCode;" (.ref wO)) (zf_S_com_example_object_access_rules_objectaccessrules_StatusCode_MISSING_ATTRIBUTE : Sta Z Z.heap "com/example/object_access_rules/objectaccessrules/StatusCode" "MISSING_ATTRIBUTE" "Lcom/example/object_access_rules/objectaccessrules/StatusCode;" (.ref wM)) (zf_S_com_example_object_access_rules_objectaccessrules_StatusCode_PROCESSING_ERROR : Sta Z Z.heap "com/example/object_access_rules/objectaccessrules/StatusCode" "PROCESSING_ERROR" "Lcom/example/object_access_rules/objectaccessrules/StatusCode;" (.ref wG)) (zf_S_com_example_object_access_rules_objectaccessrules_StatusCode_SYNTAX_ERROR : Sta Z Z.heap "com/example/object_access_rules/objectaccessrules/StatusCode" "SYNTAX_ERROR" "Lcom/example/object_access_rules/objectaccessrules/StatusCode;" (.ref wY)) (zf_E_wO : Exa Z Z.heap wO "com/example/object_access_rules/objectaccessrules/StatusCode") (zf_E_wM : Exa Z Z.heap wM "com/example/object_access_rules/objectaccessrules/StatusCode") (zf_E_wG : Exa Z Z.heap wG "com/example/object_access_rules/objectaccessrules/StatusCode") (zf_E_wY : Exa Z Z.heap wY "com/example/object_access_rules/objectaccessrules/StatusCode") (hzc : ¬ (zc = (0 : Int32))) (hD : own_d4 wP wD wN wI) (hS : own_d4 wO wM wG wY) :
    MetFree l x (head1 (Jvm.Cond.code x code maxLocals ret :: ws) room_1) (fun aq U => aq = #[(.int p0), (.int p1), (.int p2), (.int p3), (.int p4)] ∧ Z.Warmed39 U.vm ∧ U.heap = h0 ∧ CHv Z own_EL U.vm h0 ∧ ∀ x ∈ ([] : List Addr), Safe Z own_EL U.vm h0 x) (fun _ _ _ _ _ => True) (fun _ U o U' => ∃ v L, o = .returned v ∧ Q_own_law Z p0 p1 p2 p3 p4 zc wP wD wN wI wO wM wG wY h0 n0 v U'.vm U'.heap L ∧ CHr Z own_EL U.vm U.heap U'.vm U'.heap ∧ ReturnedEndW U o U' L room_1.cells room_1.slots) := by
  refine MetFree.of_bodySF (plainFor_of_name pn_com_example_object_access_rules_objectaccessrules_ResultEqualsPinLaw) hisR ?_
  intro p e s m args below meth c s₁ Bd hml0 hP hK
  obtain ⟨rfl, hZ, hh, hCH, hSL⟩ := hP
  have hx := Bd.exec
  have hby := Bd.bytes
  have hml : c.maxLocals = 11 := hml0
  have hown : s.vm.findClass "com/example/object_access_rules/objectaccessrules/ResultEqualsPinLaw" = some m.cls := findClass_of_methodNamed Bd.named
  have hnm := (name_of_methodNamed Bd.named Bd.method).1
  have X0 : Stand p l e room_1 (s.setVm s.vm) m #[(.int p0), (.int p1), (.int p2), (.int p3), (.int p4)] below meth c s₁ [] 0 0 := Stand.of_body Bd
  have e0 : s₁.heap = h0 := by rw [← hh, Bd.state]; rfl
  have N0 := Fr.nil n0
  have zO := O0.1
  have zO2 := O0.2.1
  have zl_E_wP : Z.heap.size > wP := zf_E_wP.lt
  have zl_E_wD : Z.heap.size > wD := zf_E_wD.lt
  have zl_E_wN : Z.heap.size > wN := zf_E_wN.lt
  have zl_E_wI : Z.heap.size > wI := zf_E_wI.lt
  have zl_E_wO : Z.heap.size > wO := zf_E_wO.lt
  have zl_E_wM : Z.heap.size > wM := zf_E_wM.lt
  have zl_E_wG : Z.heap.size > wG := zf_E_wG.lt
  have zl_E_wY : Z.heap.size > wY := zf_E_wY.lt
  refine own_open (own_via (S' := s₁.setTop (mkF m 0 #[.val (.int p0), .val (.int p1), .val (.int p2), .val (.int p3), .val (.int p4), .unset, .unset, .unset, .unset, .unset, .unset] [])) (fun t k => castTop (ef_own_law m p0 p1 p2 p3 p4) k) ?_)
  have hEL := own_EW hw
  have hS0 : s.Since s.vm h0.size := (State.WarmedH.refl s).since _
  have R0 : CHr Z own_EL s.vm h0 s.vm h0 := CHr.refl hCH
  refine own_via (S' := s₁.setTop (mkF m 1 #[.val (.int p0), .val (.int p1), .val (.int p2), .val (.int p3), .val (.int p4), .unset, .unset, .unset, .unset, .unset, .unset] [(.int p0)])) (fun t k => XS.iloadN X0.here hx rfl (hb hby at_0) rfl k) ?_
  refine own_via (S' := s₁.setTop (mkF m 3 #[.val (.int p0), .val (.int p1), .val (.int p2), .val (.int p3), .val (.int p4), .unset, .unset, .unset, .unset, .unset, .unset] [(.int (2147483647 : Int32)), (.int p0)])) (fun t k => X0.ldcInt hx hown (mvT hZ (wd0 hw)) (g := (mkF m 1 #[.val (.int p0), .val (.int p1), .val (.int p2), .val (.int p3), .val (.int p4), .unset, .unset, .unset, .unset, .unset, .unset] [(.int p0)])) rfl (hb hby at_1) _ k) ?_
  refine own_via (S' := s₁.setTop (mkF m 4 #[.val (.int p0), .val (.int p1), .val (.int p2), .val (.int p3), .val (.int p4), .unset, .unset, .unset, .unset, .unset, .unset] [(.int (p0 &&& (2147483647 : Int32)))])) (fun t k => XS.iand X0.here hx rfl (hb hby at_3) rfl k) ?_
  refine own_via (S' := s₁.setTop (mkF m 6 #[.val (.int p0), .val (.int p1), .val (.int p2), .val (.int p3), .val (.int p4), .unset, .unset, .unset, .unset, .unset, .unset] [(.int (6 : Int32)), (.int (p0 &&& (2147483647 : Int32)))])) (fun t k => XS.bipush X0.here hx rfl (hb hby at_4) k) ?_
  refine own_via (S' := s₁.setTop (mkF m 7 #[.val (.int p0), .val (.int p1), .val (.int p2), .val (.int p3), .val (.int p4), .unset, .unset, .unset, .unset, .unset, .unset] [(.int ((p0 &&& (2147483647 : Int32)) % (6 : Int32)))])) (fun t k => iremM X0 hx (g := (mkF m 6 #[.val (.int p0), .val (.int p1), .val (.int p2), .val (.int p3), .val (.int p4), .unset, .unset, .unset, .unset, .unset, .unset] [(.int (6 : Int32)), (.int (p0 &&& (2147483647 : Int32)))])) rfl (hb hby at_6) rfl (by decide) k) ?_
  refine own_via (S' := s₁.setTop (mkF m 9 #[.val (.int p0), .val (.int p1), .val (.int p2), .val (.int p3), .val (.int p4), .val (.int ((p0 &&& (2147483647 : Int32)) % (6 : Int32))), .unset, .unset, .unset, .unset, .unset] [])) (fun t k => XS.istore X0.here hx rfl (hb hby at_7) rfl (l' := #[.val (.int p0), .val (.int p1), .val (.int p2), .val (.int p3), .val (.int p4), .val (.int ((p0 &&& (2147483647 : Int32)) % (6 : Int32))), .unset, .unset, .unset, .unset, .unset]) rfl k) ?_
  obtain ⟨ia, hn_ia⟩ : ∃ z : Int32, z = ((p0 &&& (2147483647 : Int32)) % (6 : Int32)) := ⟨_, rfl⟩
  rw [← hn_ia]
  refine own_via (S' := s₁.setTop (mkF m 10 #[.val (.int p0), .val (.int p1), .val (.int p2), .val (.int p3), .val (.int p4), .val (.int ia), .unset, .unset, .unset, .unset, .unset] [(.int p1)])) (fun t k => XS.iloadN X0.here hx rfl (hb hby at_9) rfl k) ?_
  refine own_via (S' := s₁.setTop (mkF m 12 #[.val (.int p0), .val (.int p1), .val (.int p2), .val (.int p3), .val (.int p4), .val (.int ia), .unset, .unset, .unset, .unset, .unset] [(.int (2147483647 : Int32)), (.int p1)])) (fun t k => X0.ldcInt hx hown (mvT hZ (wd0 hw)) (g := (mkF m 10 #[.val (.int p0), .val (.int p1), .val (.int p2), .val (.int p3), .val (.int p4), .val (.int ia), .unset, .unset, .unset, .unset, .unset] [(.int p1)])) rfl (hb hby at_10) _ k) ?_
  refine own_via (S' := s₁.setTop (mkF m 13 #[.val (.int p0), .val (.int p1), .val (.int p2), .val (.int p3), .val (.int p4), .val (.int ia), .unset, .unset, .unset, .unset, .unset] [(.int (p1 &&& (2147483647 : Int32)))])) (fun t k => XS.iand X0.here hx rfl (hb hby at_12) rfl k) ?_
  refine own_via (S' := s₁.setTop (mkF m 15 #[.val (.int p0), .val (.int p1), .val (.int p2), .val (.int p3), .val (.int p4), .val (.int ia), .unset, .unset, .unset, .unset, .unset] [(.int (6 : Int32)), (.int (p1 &&& (2147483647 : Int32)))])) (fun t k => XS.bipush X0.here hx rfl (hb hby at_13) k) ?_
  refine own_via (S' := s₁.setTop (mkF m 16 #[.val (.int p0), .val (.int p1), .val (.int p2), .val (.int p3), .val (.int p4), .val (.int ia), .unset, .unset, .unset, .unset, .unset] [(.int ((p1 &&& (2147483647 : Int32)) % (6 : Int32)))])) (fun t k => iremM X0 hx (g := (mkF m 15 #[.val (.int p0), .val (.int p1), .val (.int p2), .val (.int p3), .val (.int p4), .val (.int ia), .unset, .unset, .unset, .unset, .unset] [(.int (6 : Int32)), (.int (p1 &&& (2147483647 : Int32)))])) rfl (hb hby at_15) rfl (by decide) k) ?_
  refine own_via (S' := s₁.setTop (mkF m 18 #[.val (.int p0), .val (.int p1), .val (.int p2), .val (.int p3), .val (.int p4), .val (.int ia), .val (.int ((p1 &&& (2147483647 : Int32)) % (6 : Int32))), .unset, .unset, .unset, .unset] [])) (fun t k => XS.istore X0.here hx rfl (hb hby at_16) rfl (l' := #[.val (.int p0), .val (.int p1), .val (.int p2), .val (.int p3), .val (.int p4), .val (.int ia), .val (.int ((p1 &&& (2147483647 : Int32)) % (6 : Int32))), .unset, .unset, .unset, .unset]) rfl k) ?_
  obtain ⟨ib, hn_ib⟩ : ∃ z : Int32, z = ((p1 &&& (2147483647 : Int32)) % (6 : Int32)) := ⟨_, rfl⟩
  rw [← hn_ib]
  obtain ⟨T1, h1, X1, e1, E1, A1, D1, -, st1⟩ := newO X0 hx hZ hown (wd1 hw) (wd2 hw) (wd3 hw) e0 (g := (mkF m 18 #[.val (.int p0), .val (.int p1), .val (.int p2), .val (.int p3), .val (.int p4), .val (.int ia), .val (.int ib), .unset, .unset, .unset, .unset] [])) rfl (hb hby at_18) (by decide) (by decide)
  obtain ⟨b1, g1⟩ : ∃ z, z = h0.size := ⟨_, rfl⟩
  rw [← g1] at A1 D1 st1
  have lt_b1 : h1.size > b1 := A1.lt
  have sz2 : h0.size ≤ h1.size := E1.1
  have O3 : Old Z n0 h1 := O0.ext E1
  have R4 : CHr Z own_EL s.vm h0 s.vm h1 := R0.trans (CHr.ext E1 R0.1)
  have F1_decision : Fld Z h1 b1 "com/example/object_access_rules/objectaccessrules/Result" "decision" "Lcom/example/object_access_rules/objectaccessrules/Decision;" .null := D1 (Or.inr (wd45 hw)) (ty := (.object "com/example/object_access_rules/objectaccessrules/Decision")) (by decide)
  have F1_status : Fld Z h1 b1 "com/example/object_access_rules/objectaccessrules/Result" "status" "Lcom/example/object_access_rules/objectaccessrules/StatusCode;" .null := D1 (Or.inr (wd50 hw)) (ty := (.object "com/example/object_access_rules/objectaccessrules/StatusCode")) (by decide)
  have F1_message : Fld Z h1 b1 "com/example/object_access_rules/objectaccessrules/Result" "message" "Ljava/lang/String;" .null := D1 (Or.inr (wd55 hw)) (ty := (.object "java/lang/String")) (by decide)
  have F1_step : Fld Z h1 b1 "com/example/object_access_rules/objectaccessrules/Result" "step" "Ljava/lang/String;" .null := D1 (Or.inr (wd66 hw)) (ty := (.object "java/lang/String")) (by decide)
  have F1_below : Fld Z h1 b1 "com/example/object_access_rules/objectaccessrules/Result" "below" "Lcom/example/object_access_rules/objectaccessrules/Result;" .null := D1 (Or.inr (wd68 hw)) (ty := (.object "com/example/object_access_rules/objectaccessrules/Result")) (by decide)
  refine own_via (S' := T1.setTop (mkF m 21 #[.val (.int p0), .val (.int p1), .val (.int p2), .val (.int p3), .val (.int p4), .val (.int ia), .val (.int ib), .unset, .unset, .unset, .unset] [(.ref b1)])) st1 ?_
  refine own_via (S' := T1.setTop (mkF m 22 #[.val (.int p0), .val (.int p1), .val (.int p2), .val (.int p3), .val (.int p4), .val (.int ia), .val (.int ib), .unset, .unset, .unset, .unset] [(.ref b1), (.ref b1)])) (fun t k => XS.dup X1.here hx rfl (hb hby at_21) rfl rfl k) ?_
  refine own_via (S' := T1.setTop (mkF m 24 #[.val (.int p0), .val (.int p1), .val (.int p2), .val (.int p3), .val (.int p4), .val (.int ia), .val (.int ib), .unset, .unset, .unset, .unset] [(.int ia), (.ref b1), (.ref b1)])) (fun t k => XS.iload X1.here hx rfl (hb hby at_22) rfl k) ?_
  obtain ⟨_, _, ⟨T5, Lp5, kp5, np5⟩, -, X5, ⟨Lc5, hQ5, l5, y5, z5⟩, st5⟩ := Jvm.LawKit.callS X1 hx (y := mt8) hown (mvT hZ (wd4 hw)) (mvT hZ (wd5 hw)) (mvT hZ (wd6 hw)) (mvT hZ (wd7 hw)) (by decide) (backOf (W := 2) (own_dec l Z a0 hw [] ia wP wD wN wI h1 n0 O3 zf_S_com_example_object_access_rules_objectaccessrules_Decision_PERMIT zf_S_com_example_object_access_rules_objectaccessrules_Decision_DENY zf_S_com_example_object_access_rules_objectaccessrules_Decision_NOT_APPLICABLE zf_S_com_example_object_access_rules_objectaccessrules_Decision_INDETERMINATE zf_E_wP zf_E_wD zf_E_wN zf_E_wI) hZ (wd7 hw) (wd6 hw) (by decide) (by decide)) (g := (mkF m 24 #[.val (.int p0), .val (.int p1), .val (.int p2), .val (.int p3), .val (.int p4), .val (.int ia), .val (.int ib), .unset, .unset, .unset, .unset] [(.int ia), (.ref b1), (.ref b1)])) rfl (by rw [hml]; rfl) (argsL := [(.int ia)]) (rest := [(.ref b1), (.ref b1)]) (lenOf pd__I_Lcom_example_object_access_rules_objectaccessrules_Decision__6172 rfl) rfl (by show 2 * 0 + _ ≤ _; exact Nat.le_of_eq rfl) (hb hby at_24) (fun _ _ => ⟨rfl, e1, (by decide : 1 + 0 ≤ _), (by decide : 5 + 0 ≤ _)⟩)
  dsimp only [Pt.U, Pt.locs, Pt.cells, Pt.slots] at X5 l5 y5 z5 st5 hQ5
  subst Lp5 kp5 np5
  obtain ⟨z5, rfl, rfl, e5, f5_0, hz5_0⟩ := hQ5
  try rw [List.append_nil] at X5
  rw [e5] at f5_0
  have lt6_z5 : h1.size > z5 := f5_0.lt
  refine own_via (S' := T5.setTop (mkF m 27 #[.val (.int p0), .val (.int p1), .val (.int p2), .val (.int p3), .val (.int p4), .val (.int ia), .val (.int ib), .unset, .unset, .unset, .unset] [(.ref z5), (.ref b1), (.ref b1)])) st5 ?_
  refine own_via (S' := T5.setTop (mkF m 29 #[.val (.int p0), .val (.int p1), .val (.int p2), .val (.int p3), .val (.int p4), .val (.int ia), .val (.int ib), .unset, .unset, .unset, .unset] [(.int ia), (.ref z5), (.ref b1), (.ref b1)])) (fun t k => XS.iload X5.here hx rfl (hb hby at_27) rfl k) ?_
  obtain ⟨_, _, ⟨T7, Lp7, kp7, np7⟩, -, X7, ⟨Lc7, hQ7, l7, y7, z7⟩, st7⟩ := Jvm.LawKit.callS X5 hx (y := mt9) hown (mvT hZ (wd11 hw)) (mvT hZ (wd12 hw)) (mvT hZ (wd6 hw)) (mvT hZ (wd13 hw)) (by decide) (backOf (W := 3) (own_st l Z a0 hw [] ia wO wM wG wY h1 n0 O3 zf_S_com_example_object_access_rules_objectaccessrules_StatusCode_OK zf_S_com_example_object_access_rules_objectaccessrules_StatusCode_MISSING_ATTRIBUTE zf_S_com_example_object_access_rules_objectaccessrules_StatusCode_PROCESSING_ERROR zf_S_com_example_object_access_rules_objectaccessrules_StatusCode_SYNTAX_ERROR zf_E_wO zf_E_wM zf_E_wG zf_E_wY) hZ (wd13 hw) (wd6 hw) (by decide) (by decide)) (g := (mkF m 29 #[.val (.int p0), .val (.int p1), .val (.int p2), .val (.int p3), .val (.int p4), .val (.int ia), .val (.int ib), .unset, .unset, .unset, .unset] [(.int ia), (.ref z5), (.ref b1), (.ref b1)])) rfl (by rw [hml]; rfl) (argsL := [(.int ia)]) (rest := [(.ref z5), (.ref b1), (.ref b1)]) (lenOf pd__I_Lcom_example_object_access_rules_objectaccessrules_StatusCode__6381 rfl) rfl (by show 2 * 0 + _ ≤ _; exact Nat.le_of_eq rfl) (hb hby at_29) (fun _ _ => ⟨rfl, e5, (by decide : 1 + 0 ≤ _), (by decide : 5 + 0 ≤ _)⟩)
  dsimp only [Pt.U, Pt.locs, Pt.cells, Pt.slots] at X7 l7 y7 z7 st7 hQ7
  subst Lp7 kp7 np7
  obtain ⟨z7, rfl, rfl, e7, f7_0, hz7_0⟩ := hQ7
  try rw [List.append_nil] at X7
  rw [e7] at f7_0
  have lt8_z7 : h1.size > z7 := f7_0.lt
  refine own_via (S' := T7.setTop (mkF m 32 #[.val (.int p0), .val (.int p1), .val (.int p2), .val (.int p3), .val (.int p4), .val (.int ia), .val (.int ib), .unset, .unset, .unset, .unset] [(.ref z7), (.ref z5), (.ref b1), (.ref b1)])) st7 ?_
  refine own_via (S' := T7.setTop (mkF m 34 #[.val (.int p0), .val (.int p1), .val (.int p2), .val (.int p3), .val (.int p4), .val (.int ia), .val (.int ib), .unset, .unset, .unset, .unset] [(.int ia), (.ref z7), (.ref z5), (.ref b1), (.ref b1)])) (fun t k => XS.iload X7.here hx rfl (hb hby at_32) rfl k) ?_
  refine own_via (S' := T7.setTop (mkF m 35 #[.val (.int p0), .val (.int p1), .val (.int p2), .val (.int p3), .val (.int p4), .val (.int ia), .val (.int ib), .unset, .unset, .unset, .unset] [(.int p2), (.int ia), (.ref z7), (.ref z5), (.ref b1), (.ref b1)])) (fun t k => XS.iloadN X7.here hx rfl (hb hby at_34) rfl k) ?_
  refine own_via (S' := T7.setTop (mkF m 37 #[.val (.int p0), .val (.int p1), .val (.int p2), .val (.int p3), .val (.int p4), .val (.int ia), .val (.int ib), .unset, .unset, .unset, .unset] [(.int p4), (.int p2), (.int ia), (.ref z7), (.ref z5), (.ref b1), (.ref b1)])) (fun t k => XS.iload X7.here hx rfl (hb hby at_35) rfl k) ?_
  refine own_via (S' := T7.setTop (mkF m 39 #[.val (.int p0), .val (.int p1), .val (.int p2), .val (.int p3), .val (.int p4), .val (.int ia), .val (.int ib), .unset, .unset, .unset, .unset] [(.int (8 : Int32)), (.int p4), (.int p2), (.int ia), (.ref z7), (.ref z5), (.ref b1), (.ref b1)])) (fun t k => XS.bipush X7.here hx rfl (hb hby at_37) k) ?_
  refine own_via (S' := T7.setTop (mkF m 40 #[.val (.int p0), .val (.int p1), .val (.int p2), .val (.int p3), .val (.int p4), .val (.int ia), .val (.int ib), .unset, .unset, .unset, .unset] [(.int (p4 &&& (8 : Int32))), (.int p2), (.int ia), (.ref z7), (.ref z5), (.ref b1), (.ref b1)])) (fun t k => XS.iand X7.here hx rfl (hb hby at_39) rfl k) ?_
  obtain ⟨z9_0, hz9_0⟩ : ∃ z : Int32, z = (if (p4 &&& (8 : Int32)) = (0 : Int32) then (0 : Int32) else (1 : Int32)) := ⟨_, rfl⟩
  suffices jn9 : ∀ (Tm9 : State), Stand p l e room_1 (s.setVm s.vm) m #[(.int p0), (.int p1), (.int p2), (.int p3), (.int p4)] below meth c Tm9 [] 1 5 → Tm9.heap = h1 → own_Done p e below (fun o U' => ∃ v L, o = .returned v ∧ Q_own_law Z p0 p1 p2 p3 p4 zc wP wD wN wI wO wM wG wY h0 n0 v U'.vm U'.heap L ∧ CHr Z own_EL s.vm s.heap U'.vm U'.heap ∧ ReturnedEndW s o U' L room_1.cells room_1.slots) (Tm9.setTop (mkF m 48 #[.val (.int p0), .val (.int p1), .val (.int p2), .val (.int p3), .val (.int p4), .val (.int ia), .val (.int ib), .unset, .unset, .unset, .unset] [(.int z9_0), (.int p2), (.int ia), (.ref z7), (.ref z5), (.ref b1), (.ref b1)])) by
    by_cases hc40_10 : (p4 &&& (8 : Int32)) = (0 : Int32)
    · -- yes
      refine own_via (S' := T7.setTop (mkF m 47 #[.val (.int p0), .val (.int p1), .val (.int p2), .val (.int p3), .val (.int p4), .val (.int ia), .val (.int ib), .unset, .unset, .unset, .unset] [(.int p2), (.int ia), (.ref z7), (.ref z5), (.ref b1), (.ref b1)])) (fun t k => XS.ifYes X7.here hx rfl (pc0 := 40) (pc' := 47) rfl (hb hby at_40) rfl ((if0 _ _).trans (teq hc40_10).1) (by decide) (by decide) k) ?_
      refine own_via (S' := T7.setTop (mkF m 48 #[.val (.int p0), .val (.int p1), .val (.int p2), .val (.int p3), .val (.int p4), .val (.int ia), .val (.int ib), .unset, .unset, .unset, .unset] [(.int (0 : Int32)), (.int p2), (.int ia), (.ref z7), (.ref z5), (.ref b1), (.ref b1)])) (fun t k => XS.iconst X7.here hx rfl (hb hby at_47) k) ?_
      have qz9_0 : z9_0 = (0 : Int32) := hz9_0.trans (if_pos hc40_10)
      rw [qz9_0] at jn9
      exact jn9 _ X7 e7
    · -- no
      refine own_via (S' := T7.setTop (mkF m 43 #[.val (.int p0), .val (.int p1), .val (.int p2), .val (.int p3), .val (.int p4), .val (.int ia), .val (.int ib), .unset, .unset, .unset, .unset] [(.int p2), (.int ia), (.ref z7), (.ref z5), (.ref b1), (.ref b1)])) (fun t k => XS.ifNo X7.here hx rfl (hb hby at_40) rfl ((if0 _ _).trans (feq hc40_10).1) k) ?_
      refine own_via (S' := T7.setTop (mkF m 44 #[.val (.int p0), .val (.int p1), .val (.int p2), .val (.int p3), .val (.int p4), .val (.int ia), .val (.int ib), .unset, .unset, .unset, .unset] [(.int (1 : Int32)), (.int p2), (.int ia), (.ref z7), (.ref z5), (.ref b1), (.ref b1)])) (fun t k => XS.iconst X7.here hx rfl (hb hby at_43) k) ?_
      refine own_via (S' := T7.setTop (mkF m 48 #[.val (.int p0), .val (.int p1), .val (.int p2), .val (.int p3), .val (.int p4), .val (.int ia), .val (.int ib), .unset, .unset, .unset, .unset] [(.int (1 : Int32)), (.int p2), (.int ia), (.ref z7), (.ref z5), (.ref b1), (.ref b1)])) (fun t k => XS.goto X7.here hx rfl (pc0 := 44) (pc' := 48) rfl (hb hby at_44) (by decide) (by decide) k) ?_
      have qz9_0 : z9_0 = (1 : Int32) := hz9_0.trans (if_neg hc40_10)
      rw [qz9_0] at jn9
      exact jn9 _ X7 e7
  intro Tm9 Xm9 em9
  have hk11 : h0.size ≤ Tm9.heap.size := by rw [em9]; omega
  obtain ⟨_, _, ⟨T11, Lp11, kp11, np11⟩, -, X11, hS11, hgr11, ⟨Lc11, ⟨hQ11, R11q⟩, l11, y11, z11⟩, st11⟩ := callSS Xm9 hx (y := mt10) hown (mvT hZ (wd17 hw)) (mvT hZ (wd18 hw)) (mvT hZ (wd6 hw)) (mvT hZ (wd19 hw)) (by decide) (own_backW (SL := []) (W := 4) (own_msg l Z a0 hw [] ia p2 z9_0 zc h1 n0 O3 zf_S_java_lang_String_COMPACT_STRINGS hzc) hZ (wd19 hw) (wd6 hw) (by decide) (by decide) hEL R4.1 all0) (g := (mkF m 48 #[.val (.int p0), .val (.int p1), .val (.int p2), .val (.int p3), .val (.int p4), .val (.int ia), .val (.int ib), .unset, .unset, .unset, .unset] [(.int z9_0), (.int p2), (.int ia), (.ref z7), (.ref z5), (.ref b1), (.ref b1)])) rfl (by rw [hml]; rfl) (argsL := [(.int ia), (.int p2), (.int z9_0)]) (rest := [(.ref z7), (.ref z5), (.ref b1), (.ref b1)]) (lenOf pd__IIZ_Ljava_lang_String__2013 rfl) rfl (by show 2 * 0 + _ ≤ _; exact Nat.le_of_eq rfl) (hb hby at_48) (fun _ _ => ⟨rfl, em9, (by decide : 1 + 3 ≤ _), (by decide : 5 + 8 ≤ _)⟩)
  dsimp only [Pt.U, Pt.locs, Pt.cells, Pt.slots] at X11 l11 y11 z11 st11 hQ11 hS11 hgr11 R11q
  subst Lp11 kp11 np11
  obtain ⟨X11, hSn11, hZ, hown⟩ := rebS hS0 hk11 X11 hS11 hgr11 hZ hown
  obtain ⟨b11, tb11, kb11, zl11, vs11, rfl, N11q, K11q, f11_0, f11_1, f11_2, pp11_0⟩ := hQ11
  have N11 := Fr.app N0 N11q
  have sz12 : h1.size ≤ T11.heap.size := K11q.1
  have R13 : CHr Z own_EL s.vm h0 T11.vm T11.heap := R4.trans R11q
  have O14 : Old Z n0 T11.heap := O3.keep K11q all0
  have lt15_b11 : T11.heap.size > b11 := f11_0.lt
  have lt16_b11 : T11.heap.size > b11 := f11_1.lt
  have lt17_tb11 : T11.heap.size > tb11 := f11_2.lt
  refine own_tr (S' := T11.setTop (mkF m 51 #[.val (.int p0), .val (.int p1), .val (.int p2), .val (.int p3), .val (.int p4), .val (.int ia), .val (.int ib), .unset, .unset, .unset, .unset] [(.ref b11), (.ref z7), (.ref z5), (.ref b1), (.ref b1)])) st11 ?_
  have cx19 : Exa Z T11.heap b1 "com/example/object_access_rules/objectaccessrules/Result" := (A1.keep K11q)
  have cx20 : Fld Z T11.heap b1 "com/example/object_access_rules/objectaccessrules/Result" "decision" "Lcom/example/object_access_rules/objectaccessrules/Decision;" .null := (F1_decision.keep K11q nin0)
  have cx21 : Fld Z T11.heap b1 "com/example/object_access_rules/objectaccessrules/Result" "status" "Lcom/example/object_access_rules/objectaccessrules/StatusCode;" .null := (F1_status.keep K11q nin0)
  have cx22 : Fld Z T11.heap b1 "com/example/object_access_rules/objectaccessrules/Result" "message" "Ljava/lang/String;" .null := (F1_message.keep K11q nin0)
  have cx23 : Fld Z T11.heap b1 "com/example/object_access_rules/objectaccessrules/Result" "step" "Ljava/lang/String;" .null := (F1_step.keep K11q nin0)
  have cx24 : Fld Z T11.heap b1 "com/example/object_access_rules/objectaccessrules/Result" "below" "Lcom/example/object_access_rules/objectaccessrules/Result;" .null := (F1_below.keep K11q nin0)
  have cx25 : Exa Z T11.heap z5 "com/example/object_access_rules/objectaccessrules/Decision" := (f5_0.keep K11q)
  have cx26 : Exa Z T11.heap z7 "com/example/object_access_rules/objectaccessrules/StatusCode" := (f7_0.keep K11q)
  have hk18 : T11.heap.size ≤ T11.heap.size := by omega
  obtain ⟨_, _, ⟨T18, Lp18, kp18, np18⟩, -, X18, hS18, hgr18, ⟨Lc18, ⟨hQ18, R18q⟩, l18, y18, z18⟩, st18⟩ := X11.specialBackS hx (y := mt3) rfl hown (mvT hZ (wd28 hw)) (mvT hZ (wd29 hw)) (mvT hZ (wd30 hw)) (by decide) (own_backW (SL := []) (W := 1) (own_r3 l Z a0 hw [] b1 z5 z7 b11 tb11 kb11 zl11 vs11 wI wO T11.heap n0 O14 zf_S_com_example_object_access_rules_objectaccessrules_Decision_INDETERMINATE zf_S_com_example_object_access_rules_objectaccessrules_StatusCode_OK cx19 cx20 cx21 cx22 cx23 cx24 cx25 cx26 f11_0 f11_1 f11_2 (by omega) (own_cons (own_r6 hn_ia) hD hS hz5_0 hz7_0 pp11_0)) hZ (wd30 hw) (wd3 hw) (by decide) (by decide) hEL R13.1 all0) (g := (mkF m 51 #[.val (.int p0), .val (.int p1), .val (.int p2), .val (.int p3), .val (.int p4), .val (.int ia), .val (.int ib), .unset, .unset, .unset, .unset] [(.ref b11), (.ref z7), (.ref z5), (.ref b1), (.ref b1)])) rfl (by rw [hml]; rfl) (Steps.refl _) (a := b1) (argsL := [(.ref z5), (.ref z7), (.ref b11)]) (rest := [(.ref b1)]) (lenOf pd__Lcom_example_object_access_rules_objectaccessrules_Decision_Lcom_example_object_access_rules_objectaccessrules_StatusCode_Ljava_lang_String__V_4135 rfl) rfl (by show 2 * 0 + _ ≤ _; exact Nat.le_of_eq rfl) (hb hby at_51) (fun _ _ => ⟨rfl, rfl, (by decide : 4 + 6 ≤ _), (by decide : 13 + 96 ≤ _)⟩)
  dsimp only [Pt.U, Pt.locs, Pt.cells, Pt.slots] at X18 l18 y18 z18 st18 hQ18 hS18 hgr18 R18q
  subst Lp18 kp18 np18
  obtain ⟨X18, hSn18, hZ, hown⟩ := rebS hSn11 hk18 X18 hS18 hgr18 hZ hown
  obtain ⟨rfl, N18q, K18q, f18_0, f18_1, f18_2, f18_3, f18_4⟩ := hQ18
  have N18 := Fr.app N11 N18q
  have sz27 : T11.heap.size ≤ T18.heap.size := K18q.1
  have R28 : CHr Z own_EL s.vm h0 T18.vm T18.heap := R13.trans R18q
  have O29 : Old Z n0 T18.heap := O14.keep K18q (allS (by omega : n0 ≤ b1) all0)
  refine own_tr (S' := T18.setTop (mkF m 54 #[.val (.int p0), .val (.int p1), .val (.int p2), .val (.int p3), .val (.int p4), .val (.int ia), .val (.int ib), .unset, .unset, .unset, .unset] [(.ref b1)])) st18 ?_
  refine own_via (S' := T18.setTop (mkF m 56 #[.val (.int p0), .val (.int p1), .val (.int p2), .val (.int p3), .val (.int p4), .val (.int ia), .val (.int ib), .val (.ref b1), .unset, .unset, .unset] [])) (fun t k => XS.astore X18.here hx rfl (hb hby at_54) rfl rfl (l' := #[.val (.int p0), .val (.int p1), .val (.int p2), .val (.int p3), .val (.int p4), .val (.int ia), .val (.int ib), .val (.ref b1), .unset, .unset, .unset]) rfl k) ?_
  obtain ⟨T30, h30, X30, e30, E30, A30, D30, -, st30⟩ := newO X18 hx hZ hown (wd1 hw) (wd2 hw) (wd3 hw) rfl (g := (mkF m 56 #[.val (.int p0), .val (.int p1), .val (.int p2), .val (.int p3), .val (.int p4), .val (.int ia), .val (.int ib), .val (.ref b1), .unset, .unset, .unset] [])) rfl (hb hby at_56) (by decide) (by decide)
  obtain ⟨b30, g30⟩ : ∃ z, z = T18.heap.size := ⟨_, rfl⟩
  rw [← g30] at A30 D30 st30
  have lt_b30 : h30.size > b30 := A30.lt
  have sz31 : T18.heap.size ≤ h30.size := E30.1
  have O32 : Old Z n0 h30 := O29.ext E30
  have R33 : CHr Z own_EL s.vm h0 T18.vm h30 := R28.trans (CHr.ext E30 R28.1)
  have F30_decision : Fld Z h30 b30 "com/example/object_access_rules/objectaccessrules/Result" "decision" "Lcom/example/object_access_rules/objectaccessrules/Decision;" .null := D30 (Or.inr (wd45 hw)) (ty := (.object "com/example/object_access_rules/objectaccessrules/Decision")) (by decide)
  have F30_status : Fld Z h30 b30 "com/example/object_access_rules/objectaccessrules/Result" "status" "Lcom/example/object_access_rules/objectaccessrules/StatusCode;" .null := D30 (Or.inr (wd50 hw)) (ty := (.object "com/example/object_access_rules/objectaccessrules/StatusCode")) (by decide)
  have F30_message : Fld Z h30 b30 "com/example/object_access_rules/objectaccessrules/Result" "message" "Ljava/lang/String;" .null := D30 (Or.inr (wd55 hw)) (ty := (.object "java/lang/String")) (by decide)
  have F30_step : Fld Z h30 b30 "com/example/object_access_rules/objectaccessrules/Result" "step" "Ljava/lang/String;" .null := D30 (Or.inr (wd66 hw)) (ty := (.object "java/lang/String")) (by decide)
  have F30_below : Fld Z h30 b30 "com/example/object_access_rules/objectaccessrules/Result" "below" "Lcom/example/object_access_rules/objectaccessrules/Result;" .null := D30 (Or.inr (wd68 hw)) (ty := (.object "com/example/object_access_rules/objectaccessrules/Result")) (by decide)
  refine own_via (S' := T30.setTop (mkF m 59 #[.val (.int p0), .val (.int p1), .val (.int p2), .val (.int p3), .val (.int p4), .val (.int ia), .val (.int ib), .val (.ref b1), .unset, .unset, .unset] [(.ref b30)])) st30 ?_
  refine own_via (S' := T30.setTop (mkF m 60 #[.val (.int p0), .val (.int p1), .val (.int p2), .val (.int p3), .val (.int p4), .val (.int ia), .val (.int ib), .val (.ref b1), .unset, .unset, .unset] [(.ref b30), (.ref b30)])) (fun t k => XS.dup X30.here hx rfl (hb hby at_59) rfl rfl k) ?_
  refine own_via (S' := T30.setTop (mkF m 62 #[.val (.int p0), .val (.int p1), .val (.int p2), .val (.int p3), .val (.int p4), .val (.int ia), .val (.int ib), .val (.ref b1), .unset, .unset, .unset] [(.int ib), (.ref b30), (.ref b30)])) (fun t k => XS.iload X30.here hx rfl (hb hby at_60) rfl k) ?_
  obtain ⟨_, _, ⟨T34, Lp34, kp34, np34⟩, -, X34, ⟨Lc34, hQ34, l34, y34, z34⟩, st34⟩ := Jvm.LawKit.callS X30 hx (y := mt8) hown (mvT hZ (wd4 hw)) (mvT hZ (wd5 hw)) (mvT hZ (wd6 hw)) (mvT hZ (wd7 hw)) (by decide) (backOf (W := 2) (own_dec l Z a0 hw [] ib wP wD wN wI h30 n0 O32 zf_S_com_example_object_access_rules_objectaccessrules_Decision_PERMIT zf_S_com_example_object_access_rules_objectaccessrules_Decision_DENY zf_S_com_example_object_access_rules_objectaccessrules_Decision_NOT_APPLICABLE zf_S_com_example_object_access_rules_objectaccessrules_Decision_INDETERMINATE zf_E_wP zf_E_wD zf_E_wN zf_E_wI) hZ (wd7 hw) (wd6 hw) (by decide) (by decide)) (g := (mkF m 62 #[.val (.int p0), .val (.int p1), .val (.int p2), .val (.int p3), .val (.int p4), .val (.int ia), .val (.int ib), .val (.ref b1), .unset, .unset, .unset] [(.int ib), (.ref b30), (.ref b30)])) rfl (by rw [hml]; rfl) (argsL := [(.int ib)]) (rest := [(.ref b30), (.ref b30)]) (lenOf pd__I_Lcom_example_object_access_rules_objectaccessrules_Decision__6172 rfl) rfl (by show 2 * 0 + _ ≤ _; exact Nat.le_of_eq rfl) (hb hby at_62) (fun _ _ => ⟨rfl, e30, (by decide : 11 + 0 ≤ _), (by decide : 114 + 0 ≤ _)⟩)
  dsimp only [Pt.U, Pt.locs, Pt.cells, Pt.slots] at X34 l34 y34 z34 st34 hQ34
  subst Lp34 kp34 np34
  obtain ⟨z34, rfl, rfl, e34, f34_0, hz34_0⟩ := hQ34
  try rw [List.append_nil] at X34
  rw [e34] at f34_0
  have lt35_z34 : h30.size > z34 := f34_0.lt
  refine own_via (S' := T34.setTop (mkF m 65 #[.val (.int p0), .val (.int p1), .val (.int p2), .val (.int p3), .val (.int p4), .val (.int ia), .val (.int ib), .val (.ref b1), .unset, .unset, .unset] [(.ref z34), (.ref b30), (.ref b30)])) st34 ?_
  refine own_via (S' := T34.setTop (mkF m 67 #[.val (.int p0), .val (.int p1), .val (.int p2), .val (.int p3), .val (.int p4), .val (.int ia), .val (.int ib), .val (.ref b1), .unset, .unset, .unset] [(.int ib), (.ref z34), (.ref b30), (.ref b30)])) (fun t k => XS.iload X34.here hx rfl (hb hby at_65) rfl k) ?_
  obtain ⟨_, _, ⟨T36, Lp36, kp36, np36⟩, -, X36, ⟨Lc36, hQ36, l36, y36, z36⟩, st36⟩ := Jvm.LawKit.callS X34 hx (y := mt9) hown (mvT hZ (wd11 hw)) (mvT hZ (wd12 hw)) (mvT hZ (wd6 hw)) (mvT hZ (wd13 hw)) (by decide) (backOf (W := 3) (own_st l Z a0 hw [] ib wO wM wG wY h30 n0 O32 zf_S_com_example_object_access_rules_objectaccessrules_StatusCode_OK zf_S_com_example_object_access_rules_objectaccessrules_StatusCode_MISSING_ATTRIBUTE zf_S_com_example_object_access_rules_objectaccessrules_StatusCode_PROCESSING_ERROR zf_S_com_example_object_access_rules_objectaccessrules_StatusCode_SYNTAX_ERROR zf_E_wO zf_E_wM zf_E_wG zf_E_wY) hZ (wd13 hw) (wd6 hw) (by decide) (by decide)) (g := (mkF m 67 #[.val (.int p0), .val (.int p1), .val (.int p2), .val (.int p3), .val (.int p4), .val (.int ia), .val (.int ib), .val (.ref b1), .unset, .unset, .unset] [(.int ib), (.ref z34), (.ref b30), (.ref b30)])) rfl (by rw [hml]; rfl) (argsL := [(.int ib)]) (rest := [(.ref z34), (.ref b30), (.ref b30)]) (lenOf pd__I_Lcom_example_object_access_rules_objectaccessrules_StatusCode__6381 rfl) rfl (by show 2 * 0 + _ ≤ _; exact Nat.le_of_eq rfl) (hb hby at_67) (fun _ _ => ⟨rfl, e34, (by decide : 11 + 0 ≤ _), (by decide : 114 + 0 ≤ _)⟩)
  dsimp only [Pt.U, Pt.locs, Pt.cells, Pt.slots] at X36 l36 y36 z36 st36 hQ36
  subst Lp36 kp36 np36
  obtain ⟨z36, rfl, rfl, e36, f36_0, hz36_0⟩ := hQ36
  try rw [List.append_nil] at X36
  rw [e36] at f36_0
  have lt37_z36 : h30.size > z36 := f36_0.lt
  refine own_via (S' := T36.setTop (mkF m 70 #[.val (.int p0), .val (.int p1), .val (.int p2), .val (.int p3), .val (.int p4), .val (.int ia), .val (.int ib), .val (.ref b1), .unset, .unset, .unset] [(.ref z36), (.ref z34), (.ref b30), (.ref b30)])) st36 ?_
  refine own_via (S' := T36.setTop (mkF m 72 #[.val (.int p0), .val (.int p1), .val (.int p2), .val (.int p3), .val (.int p4), .val (.int ia), .val (.int ib), .val (.ref b1), .unset, .unset, .unset] [(.int ib), (.ref z36), (.ref z34), (.ref b30), (.ref b30)])) (fun t k => XS.iload X36.here hx rfl (hb hby at_70) rfl k) ?_
  refine own_via (S' := T36.setTop (mkF m 73 #[.val (.int p0), .val (.int p1), .val (.int p2), .val (.int p3), .val (.int p4), .val (.int ia), .val (.int ib), .val (.ref b1), .unset, .unset, .unset] [(.int p3), (.int ib), (.ref z36), (.ref z34), (.ref b30), (.ref b30)])) (fun t k => XS.iloadN X36.here hx rfl (hb hby at_72) rfl k) ?_
  refine own_via (S' := T36.setTop (mkF m 75 #[.val (.int p0), .val (.int p1), .val (.int p2), .val (.int p3), .val (.int p4), .val (.int ia), .val (.int ib), .val (.ref b1), .unset, .unset, .unset] [(.int p4), (.int p3), (.int ib), (.ref z36), (.ref z34), (.ref b30), (.ref b30)])) (fun t k => XS.iload X36.here hx rfl (hb hby at_73) rfl k) ?_
  refine own_via (S' := T36.setTop (mkF m 77 #[.val (.int p0), .val (.int p1), .val (.int p2), .val (.int p3), .val (.int p4), .val (.int ia), .val (.int ib), .val (.ref b1), .unset, .unset, .unset] [(.int (16 : Int32)), (.int p4), (.int p3), (.int ib), (.ref z36), (.ref z34), (.ref b30), (.ref b30)])) (fun t k => XS.bipush X36.here hx rfl (hb hby at_75) k) ?_
  refine own_via (S' := T36.setTop (mkF m 78 #[.val (.int p0), .val (.int p1), .val (.int p2), .val (.int p3), .val (.int p4), .val (.int ia), .val (.int ib), .val (.ref b1), .unset, .unset, .unset] [(.int (p4 &&& (16 : Int32))), (.int p3), (.int ib), (.ref z36), (.ref z34), (.ref b30), (.ref b30)])) (fun t k => XS.iand X36.here hx rfl (hb hby at_77) rfl k) ?_
  obtain ⟨z38_0, hz38_0⟩ : ∃ z : Int32, z = (if (p4 &&& (16 : Int32)) = (0 : Int32) then (0 : Int32) else (1 : Int32)) := ⟨_, rfl⟩
  suffices jn38 : ∀ (Tm38 : State), Stand p l e room_1 (s.setVm T18.vm) m #[(.int p0), (.int p1), (.int p2), (.int p3), (.int p4)] below meth c Tm38 (([] ++ Lc11) ++ Lc18) 11 114 → Tm38.heap = h30 → own_Done p e below (fun o U' => ∃ v L, o = .returned v ∧ Q_own_law Z p0 p1 p2 p3 p4 zc wP wD wN wI wO wM wG wY h0 n0 v U'.vm U'.heap L ∧ CHr Z own_EL s.vm s.heap U'.vm U'.heap ∧ ReturnedEndW s o U' L room_1.cells room_1.slots) (Tm38.setTop (mkF m 86 #[.val (.int p0), .val (.int p1), .val (.int p2), .val (.int p3), .val (.int p4), .val (.int ia), .val (.int ib), .val (.ref b1), .unset, .unset, .unset] [(.int z38_0), (.int p3), (.int ib), (.ref z36), (.ref z34), (.ref b30), (.ref b30)])) by
    by_cases hc78_39 : (p4 &&& (16 : Int32)) = (0 : Int32)
    · -- yes
      refine own_via (S' := T36.setTop (mkF m 85 #[.val (.int p0), .val (.int p1), .val (.int p2), .val (.int p3), .val (.int p4), .val (.int ia), .val (.int ib), .val (.ref b1), .unset, .unset, .unset] [(.int p3), (.int ib), (.ref z36), (.ref z34), (.ref b30), (.ref b30)])) (fun t k => XS.ifYes X36.here hx rfl (pc0 := 78) (pc' := 85) rfl (hb hby at_78) rfl ((if0 _ _).trans (teq hc78_39).1) (by decide) (by decide) k) ?_
      refine own_via (S' := T36.setTop (mkF m 86 #[.val (.int p0), .val (.int p1), .val (.int p2), .val (.int p3), .val (.int p4), .val (.int ia), .val (.int ib), .val (.ref b1), .unset, .unset, .unset] [(.int (0 : Int32)), (.int p3), (.int ib), (.ref z36), (.ref z34), (.ref b30), (.ref b30)])) (fun t k => XS.iconst X36.here hx rfl (hb hby at_85) k) ?_
      have qz38_0 : z38_0 = (0 : Int32) := hz38_0.trans (if_pos hc78_39)
      rw [qz38_0] at jn38
      exact jn38 _ X36 e36
    · -- no
      refine own_via (S' := T36.setTop (mkF m 81 #[.val (.int p0), .val (.int p1), .val (.int p2), .val (.int p3), .val (.int p4), .val (.int ia), .val (.int ib), .val (.ref b1), .unset, .unset, .unset] [(.int p3), (.int ib), (.ref z36), (.ref z34), (.ref b30), (.ref b30)])) (fun t k => XS.ifNo X36.here hx rfl (hb hby at_78) rfl ((if0 _ _).trans (feq hc78_39).1) k) ?_
      refine own_via (S' := T36.setTop (mkF m 82 #[.val (.int p0), .val (.int p1), .val (.int p2), .val (.int p3), .val (.int p4), .val (.int ia), .val (.int ib), .val (.ref b1), .unset, .unset, .unset] [(.int (1 : Int32)), (.int p3), (.int ib), (.ref z36), (.ref z34), (.ref b30), (.ref b30)])) (fun t k => XS.iconst X36.here hx rfl (hb hby at_81) k) ?_
      refine own_via (S' := T36.setTop (mkF m 86 #[.val (.int p0), .val (.int p1), .val (.int p2), .val (.int p3), .val (.int p4), .val (.int ia), .val (.int ib), .val (.ref b1), .unset, .unset, .unset] [(.int (1 : Int32)), (.int p3), (.int ib), (.ref z36), (.ref z34), (.ref b30), (.ref b30)])) (fun t k => XS.goto X36.here hx rfl (pc0 := 82) (pc' := 86) rfl (hb hby at_82) (by decide) (by decide) k) ?_
      have qz38_0 : z38_0 = (1 : Int32) := hz38_0.trans (if_neg hc78_39)
      rw [qz38_0] at jn38
      exact jn38 _ X36 e36
  intro Tm38 Xm38 em38
  have hk40 : T18.heap.size ≤ Tm38.heap.size := by rw [em38]; omega
  obtain ⟨_, _, ⟨T40, Lp40, kp40, np40⟩, -, X40, hS40, hgr40, ⟨Lc40, ⟨hQ40, R40q⟩, l40, y40, z40⟩, st40⟩ := callSS Xm38 hx (y := mt10) hown (mvT hZ (wd17 hw)) (mvT hZ (wd18 hw)) (mvT hZ (wd6 hw)) (mvT hZ (wd19 hw)) (by decide) (own_backW (SL := []) (W := 4) (own_msg l Z a0 hw [] ib p3 z38_0 zc h30 n0 O32 zf_S_java_lang_String_COMPACT_STRINGS hzc) hZ (wd19 hw) (wd6 hw) (by decide) (by decide) hEL R33.1 all0) (g := (mkF m 86 #[.val (.int p0), .val (.int p1), .val (.int p2), .val (.int p3), .val (.int p4), .val (.int ia), .val (.int ib), .val (.ref b1), .unset, .unset, .unset] [(.int z38_0), (.int p3), (.int ib), (.ref z36), (.ref z34), (.ref b30), (.ref b30)])) rfl (by rw [hml]; rfl) (argsL := [(.int ib), (.int p3), (.int z38_0)]) (rest := [(.ref z36), (.ref z34), (.ref b30), (.ref b30)]) (lenOf pd__IIZ_Ljava_lang_String__2013 rfl) rfl (by show 2 * 0 + _ ≤ _; exact Nat.le_of_eq rfl) (hb hby at_86) (fun _ _ => ⟨rfl, em38, (by decide : 11 + 3 ≤ _), (by decide : 114 + 8 ≤ _)⟩)
  dsimp only [Pt.U, Pt.locs, Pt.cells, Pt.slots] at X40 l40 y40 z40 st40 hQ40 hS40 hgr40 R40q
  subst Lp40 kp40 np40
  obtain ⟨X40, hSn40, hZ, hown⟩ := rebS hSn18 hk40 X40 hS40 hgr40 hZ hown
  obtain ⟨b40, tb40, kb40, zl40, vs40, rfl, N40q, K40q, f40_0, f40_1, f40_2, pp40_0⟩ := hQ40
  have N40 := Fr.app N18 N40q
  have sz41 : h30.size ≤ T40.heap.size := K40q.1
  have R42 : CHr Z own_EL s.vm h0 T40.vm T40.heap := R33.trans R40q
  have O43 : Old Z n0 T40.heap := O32.keep K40q all0
  have lt44_b40 : T40.heap.size > b40 := f40_0.lt
  have lt45_b40 : T40.heap.size > b40 := f40_1.lt
  have lt46_tb40 : T40.heap.size > tb40 := f40_2.lt
  refine own_tr (S' := T40.setTop (mkF m 89 #[.val (.int p0), .val (.int p1), .val (.int p2), .val (.int p3), .val (.int p4), .val (.int ia), .val (.int ib), .val (.ref b1), .unset, .unset, .unset] [(.ref b40), (.ref z36), (.ref z34), (.ref b30), (.ref b30)])) st40 ?_
  have cx48 : Exa Z T40.heap b30 "com/example/object_access_rules/objectaccessrules/Result" := (A30.keep K40q)
  have cx49 : Fld Z T40.heap b30 "com/example/object_access_rules/objectaccessrules/Result" "decision" "Lcom/example/object_access_rules/objectaccessrules/Decision;" .null := (F30_decision.keep K40q nin0)
  have cx50 : Fld Z T40.heap b30 "com/example/object_access_rules/objectaccessrules/Result" "status" "Lcom/example/object_access_rules/objectaccessrules/StatusCode;" .null := (F30_status.keep K40q nin0)
  have cx51 : Fld Z T40.heap b30 "com/example/object_access_rules/objectaccessrules/Result" "message" "Ljava/lang/String;" .null := (F30_message.keep K40q nin0)
  have cx52 : Fld Z T40.heap b30 "com/example/object_access_rules/objectaccessrules/Result" "step" "Ljava/lang/String;" .null := (F30_step.keep K40q nin0)
  have cx53 : Fld Z T40.heap b30 "com/example/object_access_rules/objectaccessrules/Result" "below" "Lcom/example/object_access_rules/objectaccessrules/Result;" .null := (F30_below.keep K40q nin0)
  have cx54 : Exa Z T40.heap z34 "com/example/object_access_rules/objectaccessrules/Decision" := (f34_0.keep K40q)
  have cx55 : Exa Z T40.heap z36 "com/example/object_access_rules/objectaccessrules/StatusCode" := (f36_0.keep K40q)
  have hk47 : T40.heap.size ≤ T40.heap.size := by omega
  obtain ⟨_, _, ⟨T47, Lp47, kp47, np47⟩, -, X47, hS47, hgr47, ⟨Lc47, ⟨hQ47, R47q⟩, l47, y47, z47⟩, st47⟩ := X40.specialBackS hx (y := mt3) rfl hown (mvT hZ (wd28 hw)) (mvT hZ (wd29 hw)) (mvT hZ (wd30 hw)) (by decide) (own_backW (SL := []) (W := 1) (own_r3 l Z a0 hw [] b30 z34 z36 b40 tb40 kb40 zl40 vs40 wI wO T40.heap n0 O43 zf_S_com_example_object_access_rules_objectaccessrules_Decision_INDETERMINATE zf_S_com_example_object_access_rules_objectaccessrules_StatusCode_OK cx48 cx49 cx50 cx51 cx52 cx53 cx54 cx55 f40_0 f40_1 f40_2 (by omega) (own_cons (own_r6 hn_ib) hD hS hz34_0 hz36_0 pp40_0)) hZ (wd30 hw) (wd3 hw) (by decide) (by decide) hEL R42.1 all0) (g := (mkF m 89 #[.val (.int p0), .val (.int p1), .val (.int p2), .val (.int p3), .val (.int p4), .val (.int ia), .val (.int ib), .val (.ref b1), .unset, .unset, .unset] [(.ref b40), (.ref z36), (.ref z34), (.ref b30), (.ref b30)])) rfl (by rw [hml]; rfl) (Steps.refl _) (a := b30) (argsL := [(.ref z34), (.ref z36), (.ref b40)]) (rest := [(.ref b30)]) (lenOf pd__Lcom_example_object_access_rules_objectaccessrules_Decision_Lcom_example_object_access_rules_objectaccessrules_StatusCode_Ljava_lang_String__V_4135 rfl) rfl (by show 2 * 0 + _ ≤ _; exact Nat.le_of_eq rfl) (hb hby at_89) (fun _ _ => ⟨rfl, rfl, (by decide : 14 + 6 ≤ _), (by decide : 122 + 96 ≤ _)⟩)
  dsimp only [Pt.U, Pt.locs, Pt.cells, Pt.slots] at X47 l47 y47 z47 st47 hQ47 hS47 hgr47 R47q
  subst Lp47 kp47 np47
  obtain ⟨X47, hSn47, hZ, hown⟩ := rebS hSn40 hk47 X47 hS47 hgr47 hZ hown
  obtain ⟨rfl, N47q, K47q, f47_0, f47_1, f47_2, f47_3, f47_4⟩ := hQ47
  have N47 := Fr.app N40 N47q
  have sz56 : T40.heap.size ≤ T47.heap.size := K47q.1
  have R57 : CHr Z own_EL s.vm h0 T47.vm T47.heap := R42.trans R47q
  have O58 : Old Z n0 T47.heap := O43.keep K47q (allS (by omega : n0 ≤ b30) all0)
  refine own_tr (S' := T47.setTop (mkF m 92 #[.val (.int p0), .val (.int p1), .val (.int p2), .val (.int p3), .val (.int p4), .val (.int ia), .val (.int ib), .val (.ref b1), .unset, .unset, .unset] [(.ref b30)])) st47 ?_
  refine own_via (S' := T47.setTop (mkF m 94 #[.val (.int p0), .val (.int p1), .val (.int p2), .val (.int p3), .val (.int p4), .val (.int ia), .val (.int ib), .val (.ref b1), .val (.ref b30), .unset, .unset] [])) (fun t k => XS.astore X47.here hx rfl (hb hby at_92) rfl rfl (l' := #[.val (.int p0), .val (.int p1), .val (.int p2), .val (.int p3), .val (.int p4), .val (.int ia), .val (.int ib), .val (.ref b1), .val (.ref b30), .unset, .unset]) rfl k) ?_
  refine own_via (S' := T47.setTop (mkF m 96 #[.val (.int p0), .val (.int p1), .val (.int p2), .val (.int p3), .val (.int p4), .val (.int ia), .val (.int ib), .val (.ref b1), .val (.ref b30), .unset, .unset] [(.int p4)])) (fun t k => XS.iload X47.here hx rfl (hb hby at_94) rfl k) ?_
  refine own_via (S' := T47.setTop (mkF m 97 #[.val (.int p0), .val (.int p1), .val (.int p2), .val (.int p3), .val (.int p4), .val (.int ia), .val (.int ib), .val (.ref b1), .val (.ref b30), .unset, .unset] [(.int (1 : Int32)), (.int p4)])) (fun t k => XS.iconst X47.here hx rfl (hb hby at_96) k) ?_
  refine own_via (S' := T47.setTop (mkF m 98 #[.val (.int p0), .val (.int p1), .val (.int p2), .val (.int p3), .val (.int p4), .val (.int ia), .val (.int ib), .val (.ref b1), .val (.ref b30), .unset, .unset] [(.int (p4 &&& (1 : Int32)))])) (fun t k => XS.iand X47.here hx rfl (hb hby at_97) rfl k) ?_
  by_cases hc98_59 : (p4 &&& (1 : Int32)) = (0 : Int32)
  · -- yes
    refine own_via (S' := T47.setTop (mkF m 120 #[.val (.int p0), .val (.int p1), .val (.int p2), .val (.int p3), .val (.int p4), .val (.int ia), .val (.int ib), .val (.ref b1), .val (.ref b30), .unset, .unset] [])) (fun t k => XS.ifYes X47.here hx rfl (pc0 := 98) (pc' := 120) rfl (hb hby at_98) rfl ((if0 _ _).trans (teq hc98_59).1) (by decide) (by decide) k) ?_
    refine own_via (S' := T47.setTop (mkF m 122 #[.val (.int p0), .val (.int p1), .val (.int p2), .val (.int p3), .val (.int p4), .val (.int ia), .val (.int ib), .val (.ref b1), .val (.ref b30), .unset, .unset] [(.int p4)])) (fun t k => XS.iload X47.here hx rfl (hb hby at_120) rfl k) ?_
    refine own_via (S' := T47.setTop (mkF m 123 #[.val (.int p0), .val (.int p1), .val (.int p2), .val (.int p3), .val (.int p4), .val (.int ia), .val (.int ib), .val (.ref b1), .val (.ref b30), .unset, .unset] [(.int (1 : Int32)), (.int p4)])) (fun t k => XS.iconst X47.here hx rfl (hb hby at_122) k) ?_
    refine own_via (S' := T47.setTop (mkF m 124 #[.val (.int p0), .val (.int p1), .val (.int p2), .val (.int p3), .val (.int p4), .val (.int ia), .val (.int ib), .val (.ref b1), .val (.ref b30), .unset, .unset] [(.int ((p4.toUInt32 >>> ((1 : Int32) &&& 31).toUInt32).toInt32))])) (fun t k => XS.iushr X47.here hx rfl (hb hby at_123) rfl k) ?_
    refine own_via (S' := T47.setTop (mkF m 125 #[.val (.int p0), .val (.int p1), .val (.int p2), .val (.int p3), .val (.int p4), .val (.int ia), .val (.int ib), .val (.ref b1), .val (.ref b30), .unset, .unset] [(.int (3 : Int32)), (.int ((p4.toUInt32 >>> ((1 : Int32) &&& 31).toUInt32).toInt32))])) (fun t k => XS.iconst X47.here hx rfl (hb hby at_124) k) ?_
    refine own_via (S' := T47.setTop (mkF m 126 #[.val (.int p0), .val (.int p1), .val (.int p2), .val (.int p3), .val (.int p4), .val (.int ia), .val (.int ib), .val (.ref b1), .val (.ref b30), .unset, .unset] [(.int (((p4.toUInt32 >>> ((1 : Int32) &&& 31).toUInt32).toInt32) &&& (3 : Int32)))])) (fun t k => XS.iand X47.here hx rfl (hb hby at_125) rfl k) ?_
    refine own_via (S' := T47.setTop (mkF m 128 #[.val (.int p0), .val (.int p1), .val (.int p2), .val (.int p3), .val (.int p4), .val (.int ia), .val (.int ib), .val (.ref b1), .val (.ref b30), .val (.int (((p4.toUInt32 >>> ((1 : Int32) &&& 31).toUInt32).toInt32) &&& (3 : Int32))), .unset] [])) (fun t k => XS.istore X47.here hx rfl (hb hby at_126) rfl (l' := #[.val (.int p0), .val (.int p1), .val (.int p2), .val (.int p3), .val (.int p4), .val (.int ia), .val (.int ib), .val (.ref b1), .val (.ref b30), .val (.int (((p4.toUInt32 >>> ((1 : Int32) &&& 31).toUInt32).toInt32) &&& (3 : Int32))), .unset]) rfl k) ?_
    obtain ⟨kd, hn_kd⟩ : ∃ z : Int32, z = (((p4.toUInt32 >>> ((1 : Int32) &&& 31).toUInt32).toInt32) &&& (3 : Int32)) := ⟨_, rfl⟩
    rw [← hn_kd]
    refine own_via (S' := T47.setTop (mkF m 130 #[.val (.int p0), .val (.int p1), .val (.int p2), .val (.int p3), .val (.int p4), .val (.int ia), .val (.int ib), .val (.ref b1), .val (.ref b30), .val (.int kd), .unset] [(.int kd)])) (fun t k => XS.iload X47.here hx rfl (hb hby at_128) rfl k) ?_
    by_cases hc130_60 : kd = (0 : Int32)
    · -- yes
      refine own_via (S' := T47.setTop (mkF m 133 #[.val (.int p0), .val (.int p1), .val (.int p2), .val (.int p3), .val (.int p4), .val (.int ia), .val (.int ib), .val (.ref b1), .val (.ref b30), .val (.int kd), .unset] [])) (fun t k => XS.ifNo X47.here hx rfl (hb hby at_130) rfl ((if0 _ _).trans (teq hc130_60).2) k) ?_
      refine own_via (S' := T47.setTop (mkF m 135 #[.val (.int p0), .val (.int p1), .val (.int p2), .val (.int p3), .val (.int p4), .val (.int ia), .val (.int ib), .val (.ref b1), .val (.ref b30), .val (.int kd), .unset] [(.int ia)])) (fun t k => XS.iload X47.here hx rfl (hb hby at_133) rfl k) ?_
      refine own_via (S' := T47.setTop (mkF m 137 #[.val (.int p0), .val (.int p1), .val (.int p2), .val (.int p3), .val (.int p4), .val (.int ia), .val (.int ib), .val (.ref b1), .val (.ref b30), .val (.int kd), .unset] [(.int ib), (.int ia)])) (fun t k => XS.iload X47.here hx rfl (hb hby at_135) rfl k) ?_
      obtain ⟨z61_0, hz61_0⟩ : ∃ z : Int32, z = (if ia = ib then (1 : Int32) else (0 : Int32)) := ⟨_, rfl⟩
      suffices jn61 : ∀ (Tm61 : State), Stand p l e room_1 (s.setVm T47.vm) m #[(.int p0), (.int p1), (.int p2), (.int p3), (.int p4)] below meth c Tm61 (((([] ++ Lc11) ++ Lc18) ++ Lc40) ++ Lc47) 20 218 → Tm61.heap = T47.heap → own_Done p e below (fun o U' => ∃ v L, o = .returned v ∧ Q_own_law Z p0 p1 p2 p3 p4 zc wP wD wN wI wO wM wG wY h0 n0 v U'.vm U'.heap L ∧ CHr Z own_EL s.vm s.heap U'.vm U'.heap ∧ ReturnedEndW s o U' L room_1.cells room_1.slots) (Tm61.setTop (mkF m 145 #[.val (.int p0), .val (.int p1), .val (.int p2), .val (.int p3), .val (.int p4), .val (.int ia), .val (.int ib), .val (.ref b1), .val (.ref b30), .val (.int kd), .unset] [(.int z61_0)])) by
        by_cases hc137_62 : ia = ib
        · -- yes
          refine own_via (S' := T47.setTop (mkF m 140 #[.val (.int p0), .val (.int p1), .val (.int p2), .val (.int p3), .val (.int p4), .val (.int ia), .val (.int ib), .val (.ref b1), .val (.ref b30), .val (.int kd), .unset] [])) (fun t k => XS.icmpNo X47.here hx rfl (hb hby at_137) rfl (teq hc137_62).2 k) ?_
          refine own_via (S' := T47.setTop (mkF m 141 #[.val (.int p0), .val (.int p1), .val (.int p2), .val (.int p3), .val (.int p4), .val (.int ia), .val (.int ib), .val (.ref b1), .val (.ref b30), .val (.int kd), .unset] [(.int (1 : Int32))])) (fun t k => XS.iconst X47.here hx rfl (hb hby at_140) k) ?_
          refine own_via (S' := T47.setTop (mkF m 145 #[.val (.int p0), .val (.int p1), .val (.int p2), .val (.int p3), .val (.int p4), .val (.int ia), .val (.int ib), .val (.ref b1), .val (.ref b30), .val (.int kd), .unset] [(.int (1 : Int32))])) (fun t k => XS.goto X47.here hx rfl (pc0 := 141) (pc' := 145) rfl (hb hby at_141) (by decide) (by decide) k) ?_
          have qz61_0 : z61_0 = (1 : Int32) := hz61_0.trans (if_pos hc137_62)
          rw [qz61_0] at jn61
          exact jn61 _ X47 rfl
        · -- no
          refine own_via (S' := T47.setTop (mkF m 144 #[.val (.int p0), .val (.int p1), .val (.int p2), .val (.int p3), .val (.int p4), .val (.int ia), .val (.int ib), .val (.ref b1), .val (.ref b30), .val (.int kd), .unset] [])) (fun t k => XS.icmpYes X47.here hx rfl (pc0 := 137) (pc' := 144) rfl (hb hby at_137) rfl (feq hc137_62).2 (by decide) (by decide) k) ?_
          refine own_via (S' := T47.setTop (mkF m 145 #[.val (.int p0), .val (.int p1), .val (.int p2), .val (.int p3), .val (.int p4), .val (.int ia), .val (.int ib), .val (.ref b1), .val (.ref b30), .val (.int kd), .unset] [(.int (0 : Int32))])) (fun t k => XS.iconst X47.here hx rfl (hb hby at_144) k) ?_
          have qz61_0 : z61_0 = (0 : Int32) := hz61_0.trans (if_neg hc137_62)
          rw [qz61_0] at jn61
          exact jn61 _ X47 rfl
      intro Tm61 Xm61 em61
      refine own_via (S' := Tm61.setTop (mkF m 147 #[.val (.int p0), .val (.int p1), .val (.int p2), .val (.int p3), .val (.int p4), .val (.int ia), .val (.int ib), .val (.ref b1), .val (.ref b30), .val (.int kd), .val (.int z61_0)] [])) (fun t k => XS.istore Xm61.here hx rfl (hb hby at_145) rfl (l' := #[.val (.int p0), .val (.int p1), .val (.int p2), .val (.int p3), .val (.int p4), .val (.int ia), .val (.int ib), .val (.ref b1), .val (.ref b30), .val (.int kd), .val (.int z61_0)]) rfl k) ?_
      refine own_via (S' := Tm61.setTop (mkF m 149 #[.val (.int p0), .val (.int p1), .val (.int p2), .val (.int p3), .val (.int p4), .val (.int ia), .val (.int ib), .val (.ref b1), .val (.ref b30), .val (.int kd), .val (.int z61_0)] [(.ref b1)])) (fun t k => XS.aload Xm61.here hx rfl (hb hby at_147) rfl rfl k) ?_
      refine own_via (S' := Tm61.setTop (mkF m 151 #[.val (.int p0), .val (.int p1), .val (.int p2), .val (.int p3), .val (.int p4), .val (.int ia), .val (.int ib), .val (.ref b1), .val (.ref b30), .val (.int kd), .val (.int z61_0)] [(.ref b30), (.ref b1)])) (fun t k => XS.aload Xm61.here hx rfl (hb hby at_149) rfl rfl k) ?_
      have ne_b1_b30 : b1 ≠ b30 := by omega
      have cx64 : Fld Z T47.heap b1 "com/example/object_access_rules/objectaccessrules/Result" "decision" "Lcom/example/object_access_rules/objectaccessrules/Decision;" (.ref z5) := (((f18_0.ext E30).keep K40q nin0).keep K47q (ninS ne_b1_b30 nin0))
      have cx65 : Fld Z T47.heap b1 "com/example/object_access_rules/objectaccessrules/Result" "status" "Lcom/example/object_access_rules/objectaccessrules/StatusCode;" (.ref z7) := (((f18_1.ext E30).keep K40q nin0).keep K47q (ninS ne_b1_b30 nin0))
      have cx66 : Exa Z T47.heap b30 "com/example/object_access_rules/objectaccessrules/Result" := (cx48.keep K47q)
      have cx67 : Exa Z T47.heap b1 "com/example/object_access_rules/objectaccessrules/Result" := ((((cx19.keep K18q).ext E30).keep K40q).keep K47q)
      obtain ⟨cq63, kq63, q63a, q63b, q63c⟩ := isOf hZ em61 cx67
      obtain ⟨_, _, ⟨T63, Lp63, kp63, np63⟩, -, X63, ⟨Lc63, hQ63, l63, y63, z63⟩, st63⟩ := Xm61.virtualBack hx (y := mt13) (z := mt13) hown (mvT hZ (wd93 hw)) (mvT hZ (wd94 hw)) (notFace_of_selects (args := #[]) (mvT hZ (wd96 hw))) (mvT hZ (wd96 hw)) (mvT hZ (wd95 hw)) (by decide) (backOf (W := 0) (own_eqR l Z a0 hw [] b1 b30 z5 z7 z34 z36 T47.heap n0 O58 cx64 cx65 f47_0 f47_1 cx66) hZ (wd97 hw) (wd3 hw) (by decide) (by decide)) q63a q63c (g := (mkF m 151 #[.val (.int p0), .val (.int p1), .val (.int p2), .val (.int p3), .val (.int p4), .val (.int ia), .val (.int ib), .val (.ref b1), .val (.ref b30), .val (.int kd), .val (.int z61_0)] [(.ref b30), (.ref b1)])) rfl (by rw [hml]; rfl) (Steps.refl _) (argsL := [(.ref b30)]) (rest := []) (lenOf pd__Ljava_lang_Object__Z_1835 rfl) rfl (by show 2 * 0 + _ ≤ _; exact Nat.le_of_eq rfl) (hb hby at_151) (fun _ _ => ⟨rfl, em61, (by decide : 20 + 0 ≤ _), (by decide : 218 + 0 ≤ _)⟩)
      dsimp only [Pt.U, Pt.locs, Pt.cells, Pt.slots] at X63 l63 y63 z63 st63 hQ63
      subst Lp63 kp63 np63
      obtain ⟨z63, rfl, rfl, e63, hz63_0⟩ := hQ63
      try rw [List.append_nil] at X63
      refine own_tr (S' := T63.setTop (mkF m 154 #[.val (.int p0), .val (.int p1), .val (.int p2), .val (.int p3), .val (.int p4), .val (.int ia), .val (.int ib), .val (.ref b1), .val (.ref b30), .val (.int kd), .val (.int z61_0)] [(.int z63)])) st63 ?_
      refine own_via (S' := T63.setTop (mkF m 156 #[.val (.int p0), .val (.int p1), .val (.int p2), .val (.int p3), .val (.int p4), .val (.int ia), .val (.int ib), .val (.ref b1), .val (.ref b30), .val (.int kd), .val (.int z61_0)] [(.int z61_0), (.int z63)])) (fun t k => XS.iload X63.here hx rfl (hb hby at_154) rfl k) ?_
      have hc156_68 : z63 = z61_0 := own_fin (own_r6 hn_ia) (own_r6 hn_ib) hD hS hz5_0 hz7_0 hz34_0 hz36_0 hz63_0 hz61_0
      refine own_via (S' := T63.setTop (mkF m 159 #[.val (.int p0), .val (.int p1), .val (.int p2), .val (.int p3), .val (.int p4), .val (.int ia), .val (.int ib), .val (.ref b1), .val (.ref b30), .val (.int kd), .val (.int z61_0)] [])) (fun t k => XS.icmpNo X63.here hx rfl (hb hby at_156) rfl (teq hc156_68).2 k) ?_
      refine own_via (S' := T63.setTop (mkF m 161 #[.val (.int p0), .val (.int p1), .val (.int p2), .val (.int p3), .val (.int p4), .val (.int ia), .val (.int ib), .val (.ref b1), .val (.ref b30), .val (.int kd), .val (.int z61_0)] [(.ref b30)])) (fun t k => XS.aload X63.here hx rfl (hb hby at_159) rfl rfl k) ?_
      refine own_via (S' := T63.setTop (mkF m 163 #[.val (.int p0), .val (.int p1), .val (.int p2), .val (.int p3), .val (.int p4), .val (.int ia), .val (.int ib), .val (.ref b1), .val (.ref b30), .val (.int kd), .val (.int z61_0)] [(.ref b1), (.ref b30)])) (fun t k => XS.aload X63.here hx rfl (hb hby at_161) rfl rfl k) ?_
      obtain ⟨cq69, kq69, q69a, q69b, q69c⟩ := isOf hZ e63 cx66
      obtain ⟨_, _, ⟨T69, Lp69, kp69, np69⟩, -, X69, ⟨Lc69, hQ69, l69, y69, z69⟩, st69⟩ := X63.virtualBack hx (y := mt13) (z := mt13) hown (mvT hZ (wd93 hw)) (mvT hZ (wd94 hw)) (notFace_of_selects (args := #[]) (mvT hZ (wd96 hw))) (mvT hZ (wd96 hw)) (mvT hZ (wd95 hw)) (by decide) (backOf (W := 0) (own_eqR l Z a0 hw [] b30 b1 z34 z36 z5 z7 T47.heap n0 O58 f47_0 f47_1 cx64 cx65 cx67) hZ (wd97 hw) (wd3 hw) (by decide) (by decide)) q69a q69c (g := (mkF m 163 #[.val (.int p0), .val (.int p1), .val (.int p2), .val (.int p3), .val (.int p4), .val (.int ia), .val (.int ib), .val (.ref b1), .val (.ref b30), .val (.int kd), .val (.int z61_0)] [(.ref b1), (.ref b30)])) rfl (by rw [hml]; rfl) (Steps.refl _) (argsL := [(.ref b1)]) (rest := []) (lenOf pd__Ljava_lang_Object__Z_1835 rfl) rfl (by show 2 * 0 + _ ≤ _; exact Nat.le_of_eq rfl) (hb hby at_163) (fun _ _ => ⟨rfl, e63, (by decide : 20 + 0 ≤ _), (by decide : 218 + 0 ≤ _)⟩)
      dsimp only [Pt.U, Pt.locs, Pt.cells, Pt.slots] at X69 l69 y69 z69 st69 hQ69
      subst Lp69 kp69 np69
      obtain ⟨z69, rfl, rfl, e69, hz69_0⟩ := hQ69
      try rw [List.append_nil] at X69
      refine own_tr (S' := T69.setTop (mkF m 166 #[.val (.int p0), .val (.int p1), .val (.int p2), .val (.int p3), .val (.int p4), .val (.int ia), .val (.int ib), .val (.ref b1), .val (.ref b30), .val (.int kd), .val (.int z61_0)] [(.int z69)])) st69 ?_
      refine own_via (S' := T69.setTop (mkF m 168 #[.val (.int p0), .val (.int p1), .val (.int p2), .val (.int p3), .val (.int p4), .val (.int ia), .val (.int ib), .val (.ref b1), .val (.ref b30), .val (.int kd), .val (.int z61_0)] [(.int z61_0), (.int z69)])) (fun t k => XS.iload X69.here hx rfl (hb hby at_166) rfl k) ?_
      have hc168_70 : z69 = z61_0 := own_fin2 (own_r6 hn_ia) (own_r6 hn_ib) hD hS hz34_0 hz36_0 hz5_0 hz7_0 hz69_0 hz61_0
      refine own_via (S' := T69.setTop (mkF m 171 #[.val (.int p0), .val (.int p1), .val (.int p2), .val (.int p3), .val (.int p4), .val (.int ia), .val (.int ib), .val (.ref b1), .val (.ref b30), .val (.int kd), .val (.int z61_0)] [])) (fun t k => XS.icmpNo X69.here hx rfl (hb hby at_168) rfl (teq hc168_70).2 k) ?_
      refine own_via (S' := T69.setTop (mkF m 172 #[.val (.int p0), .val (.int p1), .val (.int p2), .val (.int p3), .val (.int p4), .val (.int ia), .val (.int ib), .val (.ref b1), .val (.ref b30), .val (.int kd), .val (.int z61_0)] [(.int (1 : Int32))])) (fun t k => XS.iconst X69.here hx rfl (hb hby at_171) k) ?_
      refine own_via (S' := T69.setTop (mkF m 176 #[.val (.int p0), .val (.int p1), .val (.int p2), .val (.int p3), .val (.int p4), .val (.int ia), .val (.int ib), .val (.ref b1), .val (.ref b30), .val (.int kd), .val (.int z61_0)] [(.int (1 : Int32))])) (fun t k => XS.goto X69.here hx rfl (pc0 := 172) (pc' := 176) rfl (hb hby at_172) (by decide) (by decide) k) ?_
      have RTR57 : CHr Z own_EL s.vm h0 T69.vm T47.heap := R57.trans (CHv.at X69 hZ hEL R57.1)
      have RXR57 : CHr Z own_EL s.vm s.heap T69.vm T69.heap := by rw [hh, e69]; exact RTR57
      refine own_retW (Q := Q_own_law Z p0 p1 p2 p3 p4 zc wP wD wN wI wO wM wG wY h0 n0) (C := room_1.cells) (N := room_1.slots) X69 hSn47 (by rw [e69]; omega) (v := some (.int (1 : Int32))) (fun h => by rw [Bd.returns] at h; cases h) Bd.notSynchronized ?_ RXR57 (by decide) (by decide) (fun fs hr => retN X69 hx (t := .boolean) Bd.returns (by simp) (hb hby at_176) hr)
      show Q_own_law Z p0 p1 p2 p3 p4 zc wP wD wN wI wO wM wG wY h0 n0 _ T69.vm T69.heap _
      rw [e69]
      exact ⟨rfl, N47⟩
    · -- no
      refine own_via (S' := T47.setTop (mkF m 177 #[.val (.int p0), .val (.int p1), .val (.int p2), .val (.int p3), .val (.int p4), .val (.int ia), .val (.int ib), .val (.ref b1), .val (.ref b30), .val (.int kd), .unset] [])) (fun t k => XS.ifYes X47.here hx rfl (pc0 := 130) (pc' := 177) rfl (hb hby at_130) rfl ((if0 _ _).trans (feq hc130_60).2) (by decide) (by decide) k) ?_
      refine own_via (S' := T47.setTop (mkF m 179 #[.val (.int p0), .val (.int p1), .val (.int p2), .val (.int p3), .val (.int p4), .val (.int ia), .val (.int ib), .val (.ref b1), .val (.ref b30), .val (.int kd), .unset] [(.int kd)])) (fun t k => XS.iload X47.here hx rfl (hb hby at_177) rfl k) ?_
      refine own_via (S' := T47.setTop (mkF m 180 #[.val (.int p0), .val (.int p1), .val (.int p2), .val (.int p3), .val (.int p4), .val (.int ia), .val (.int ib), .val (.ref b1), .val (.ref b30), .val (.int kd), .unset] [(.int (1 : Int32)), (.int kd)])) (fun t k => XS.iconst X47.here hx rfl (hb hby at_179) k) ?_
      by_cases hc180_71 : kd = (1 : Int32)
      · -- yes
        refine own_via (S' := T47.setTop (mkF m 183 #[.val (.int p0), .val (.int p1), .val (.int p2), .val (.int p3), .val (.int p4), .val (.int ia), .val (.int ib), .val (.ref b1), .val (.ref b30), .val (.int kd), .unset] [])) (fun t k => XS.icmpNo X47.here hx rfl (hb hby at_180) rfl (teq hc180_71).2 k) ?_
        refine own_via (S' := T47.setTop (mkF m 185 #[.val (.int p0), .val (.int p1), .val (.int p2), .val (.int p3), .val (.int p4), .val (.int ia), .val (.int ib), .val (.ref b1), .val (.ref b30), .val (.int kd), .unset] [(.ref b1)])) (fun t k => XS.aload X47.here hx rfl (hb hby at_183) rfl rfl k) ?_
        refine own_via (S' := T47.setTop (mkF m 186 #[.val (.int p0), .val (.int p1), .val (.int p2), .val (.int p3), .val (.int p4), .val (.int ia), .val (.int ib), .val (.ref b1), .val (.ref b30), .val (.int kd), .unset] [.null, (.ref b1)])) (fun t k => XS.aconstNull X47.here hx rfl (hb hby at_185) k) ?_
        have cx73 : Exa Z T47.heap b1 "com/example/object_access_rules/objectaccessrules/Result" := ((((cx19.keep K18q).ext E30).keep K40q).keep K47q)
        obtain ⟨cq72, kq72, q72a, q72b, q72c⟩ := isOf hZ rfl cx73
        obtain ⟨_, _, ⟨T72, Lp72, kp72, np72⟩, -, X72, ⟨Lc72, hQ72, l72, y72, z72⟩, st72⟩ := X47.virtualBack hx (y := mt13) (z := mt13) hown (mvT hZ (wd93 hw)) (mvT hZ (wd94 hw)) (notFace_of_selects (args := #[]) (mvT hZ (wd96 hw))) (mvT hZ (wd96 hw)) (mvT hZ (wd95 hw)) (by decide) (backOf (W := 0) (own_eqN l Z a0 hw [] b1 T47.heap n0 O58) hZ (wd97 hw) (wd3 hw) (by decide) (by decide)) q72a q72c (g := (mkF m 186 #[.val (.int p0), .val (.int p1), .val (.int p2), .val (.int p3), .val (.int p4), .val (.int ia), .val (.int ib), .val (.ref b1), .val (.ref b30), .val (.int kd), .unset] [.null, (.ref b1)])) rfl (by rw [hml]; rfl) (Steps.refl _) (argsL := [.null]) (rest := []) (lenOf pd__Ljava_lang_Object__Z_1835 rfl) rfl (by show 2 * 0 + _ ≤ _; exact Nat.le_of_eq rfl) (hb hby at_186) (fun _ _ => ⟨rfl, rfl, (by decide : 20 + 0 ≤ _), (by decide : 218 + 0 ≤ _)⟩)
        dsimp only [Pt.U, Pt.locs, Pt.cells, Pt.slots] at X72 l72 y72 z72 st72 hQ72
        subst Lp72 kp72 np72
        obtain ⟨rfl, rfl, e72⟩ := hQ72
        try rw [List.append_nil] at X72
        refine own_tr (S' := T72.setTop (mkF m 189 #[.val (.int p0), .val (.int p1), .val (.int p2), .val (.int p3), .val (.int p4), .val (.int ia), .val (.int ib), .val (.ref b1), .val (.ref b30), .val (.int kd), .unset] [(.int (0 : Int32))])) st72 ?_
        refine own_via (S' := T72.setTop (mkF m 192 #[.val (.int p0), .val (.int p1), .val (.int p2), .val (.int p3), .val (.int p4), .val (.int ia), .val (.int ib), .val (.ref b1), .val (.ref b30), .val (.int kd), .unset] [])) (fun t k => XS.ifNo X72.here hx rfl (hb hby at_189) rfl ((if0 _ _).trans (teq (by decide : (0 : Int32) = (0 : Int32))).2) k) ?_
        refine own_via (S' := T72.setTop (mkF m 193 #[.val (.int p0), .val (.int p1), .val (.int p2), .val (.int p3), .val (.int p4), .val (.int ia), .val (.int ib), .val (.ref b1), .val (.ref b30), .val (.int kd), .unset] [(.int (1 : Int32))])) (fun t k => XS.iconst X72.here hx rfl (hb hby at_192) k) ?_
        refine own_via (S' := T72.setTop (mkF m 197 #[.val (.int p0), .val (.int p1), .val (.int p2), .val (.int p3), .val (.int p4), .val (.int ia), .val (.int ib), .val (.ref b1), .val (.ref b30), .val (.int kd), .unset] [(.int (1 : Int32))])) (fun t k => XS.goto X72.here hx rfl (pc0 := 193) (pc' := 197) rfl (hb hby at_193) (by decide) (by decide) k) ?_
        have RTR57 : CHr Z own_EL s.vm h0 T72.vm T47.heap := R57.trans (CHv.at X72 hZ hEL R57.1)
        have RXR57 : CHr Z own_EL s.vm s.heap T72.vm T72.heap := by rw [hh, e72]; exact RTR57
        refine own_retW (Q := Q_own_law Z p0 p1 p2 p3 p4 zc wP wD wN wI wO wM wG wY h0 n0) (C := room_1.cells) (N := room_1.slots) X72 hSn47 (by rw [e72]; omega) (v := some (.int (1 : Int32))) (fun h => by rw [Bd.returns] at h; cases h) Bd.notSynchronized ?_ RXR57 (by decide) (by decide) (fun fs hr => retN X72 hx (t := .boolean) Bd.returns (by simp) (hb hby at_197) hr)
        show Q_own_law Z p0 p1 p2 p3 p4 zc wP wD wN wI wO wM wG wY h0 n0 _ T72.vm T72.heap _
        rw [e72]
        exact ⟨rfl, N47⟩
      · -- no
        refine own_via (S' := T47.setTop (mkF m 198 #[.val (.int p0), .val (.int p1), .val (.int p2), .val (.int p3), .val (.int p4), .val (.int ia), .val (.int ib), .val (.ref b1), .val (.ref b30), .val (.int kd), .unset] [])) (fun t k => XS.icmpYes X47.here hx rfl (pc0 := 180) (pc' := 198) rfl (hb hby at_180) rfl (feq hc180_71).2 (by decide) (by decide) k) ?_
        refine own_via (S' := T47.setTop (mkF m 200 #[.val (.int p0), .val (.int p1), .val (.int p2), .val (.int p3), .val (.int p4), .val (.int ia), .val (.int ib), .val (.ref b1), .val (.ref b30), .val (.int kd), .unset] [(.int kd)])) (fun t k => XS.iload X47.here hx rfl (hb hby at_198) rfl k) ?_
        refine own_via (S' := T47.setTop (mkF m 201 #[.val (.int p0), .val (.int p1), .val (.int p2), .val (.int p3), .val (.int p4), .val (.int ia), .val (.int ib), .val (.ref b1), .val (.ref b30), .val (.int kd), .unset] [(.int (2 : Int32)), (.int kd)])) (fun t k => XS.iconst X47.here hx rfl (hb hby at_200) k) ?_
        by_cases hc201_74 : kd = (2 : Int32)
        · -- yes
          refine own_via (S' := T47.setTop (mkF m 204 #[.val (.int p0), .val (.int p1), .val (.int p2), .val (.int p3), .val (.int p4), .val (.int ia), .val (.int ib), .val (.ref b1), .val (.ref b30), .val (.int kd), .unset] [])) (fun t k => XS.icmpNo X47.here hx rfl (hb hby at_201) rfl (teq hc201_74).2 k) ?_
          refine own_via (S' := T47.setTop (mkF m 205 #[.val (.int p0), .val (.int p1), .val (.int p2), .val (.int p3), .val (.int p4), .val (.int ia), .val (.int ib), .val (.ref b1), .val (.ref b30), .val (.int kd), .unset] [(.int (1 : Int32))])) (fun t k => XS.iconst X47.here hx rfl (hb hby at_204) k) ?_
          obtain ⟨T75, h75, k75, X75, e75, E75, A75, st75⟩ := newP (aty := .char) X47 hx hZ (wd72 hw) rfl (g := (mkF m 205 #[.val (.int p0), .val (.int p1), .val (.int p2), .val (.int p3), .val (.int p4), .val (.int ia), .val (.int ib), .val (.ref b1), .val (.ref b30), .val (.int kd), .unset] [(.int (1 : Int32))])) rfl (hb hby at_205) rfl (by decide : ¬ ((1 : Int32) < (0 : Int32))) (cap := 1) (by decide) (by decide) (by decide) (by decide)
          obtain ⟨b75, g75⟩ : ∃ z, z = T47.heap.size := ⟨_, rfl⟩
          rw [← g75] at A75 st75
          have lt_b75 : h75.size > b75 := A75.lt
          have sz76 : T47.heap.size ≤ h75.size := E75.1
          have O77 : Old Z n0 h75 := O58.ext E75
          have R78 : CHr Z own_EL s.vm h0 T47.vm h75 := R57.trans (CHr.ext E75 R57.1)
          have V75 : Arv Z h75 b75 k75 .char (1 : Int32) [(.int (0 : Int32))] (.int (0 : Int32)) := (Arv.new A75 (by decide)).pad (pad_rep [] (.int (0 : Int32)) 1)
          refine own_via (S' := T75.setTop (mkF m 207 #[.val (.int p0), .val (.int p1), .val (.int p2), .val (.int p3), .val (.int p4), .val (.int ia), .val (.int ib), .val (.ref b1), .val (.ref b30), .val (.int kd), .unset] [(.ref b75)])) st75 ?_
          refine own_via (S' := T75.setTop (mkF m 209 #[.val (.int p0), .val (.int p1), .val (.int p2), .val (.int p3), .val (.int p4), .val (.int ia), .val (.int ib), .val (.ref b1), .val (.ref b30), .val (.int kd), .val (.ref b75)] [])) (fun t k => XS.astore X75.here hx rfl (hb hby at_207) rfl rfl (l' := #[.val (.int p0), .val (.int p1), .val (.int p2), .val (.int p3), .val (.int p4), .val (.int ia), .val (.int ib), .val (.ref b1), .val (.ref b30), .val (.int kd), .val (.ref b75)]) rfl k) ?_
          refine own_via (S' := T75.setTop (mkF m 211 #[.val (.int p0), .val (.int p1), .val (.int p2), .val (.int p3), .val (.int p4), .val (.int ia), .val (.int ib), .val (.ref b1), .val (.ref b30), .val (.int kd), .val (.ref b75)] [(.ref b75)])) (fun t k => XS.aload X75.here hx rfl (hb hby at_209) rfl rfl k) ?_
          refine own_via (S' := T75.setTop (mkF m 212 #[.val (.int p0), .val (.int p1), .val (.int p2), .val (.int p3), .val (.int p4), .val (.int ia), .val (.int ib), .val (.ref b1), .val (.ref b30), .val (.int kd), .val (.ref b75)] [(.int (0 : Int32)), (.ref b75)])) (fun t k => XS.iconst X75.here hx rfl (hb hby at_211) k) ?_
          refine own_via (S' := T75.setTop (mkF m 213 #[.val (.int p0), .val (.int p1), .val (.int p2), .val (.int p3), .val (.int p4), .val (.int ia), .val (.int ib), .val (.ref b1), .val (.ref b30), .val (.int kd), .val (.ref b75)] [(.int p2), (.int (0 : Int32)), (.ref b75)])) (fun t k => XS.iloadN X75.here hx rfl (hb hby at_212) rfl k) ?_
          refine own_via (S' := T75.setTop (mkF m 216 #[.val (.int p0), .val (.int p1), .val (.int p2), .val (.int p3), .val (.int p4), .val (.int ia), .val (.int ib), .val (.ref b1), .val (.ref b30), .val (.int kd), .val (.ref b75)] [(.int (255 : Int32)), (.int p2), (.int (0 : Int32)), (.ref b75)])) (fun t k => XS.sipush X75.here hx rfl (hb hby at_213) k) ?_
          refine own_via (S' := T75.setTop (mkF m 217 #[.val (.int p0), .val (.int p1), .val (.int p2), .val (.int p3), .val (.int p4), .val (.int ia), .val (.int ib), .val (.ref b1), .val (.ref b30), .val (.int kd), .val (.ref b75)] [(.int (p2 &&& (255 : Int32))), (.int (0 : Int32)), (.ref b75)])) (fun t k => XS.iand X75.here hx rfl (hb hby at_216) rfl k) ?_
          refine own_via (S' := T75.setTop (mkF m 218 #[.val (.int p0), .val (.int p1), .val (.int p2), .val (.int p3), .val (.int p4), .val (.int ia), .val (.int ib), .val (.ref b1), .val (.ref b30), .val (.int kd), .val (.ref b75)] [(.int ((p2 &&& (255 : Int32)).toUInt32.toUInt16.toUInt32.toInt32)), (.int (0 : Int32)), (.ref b75)])) (fun t k => XS.i2c X75.here hx rfl (hb hby at_217) rfl k) ?_
          obtain ⟨ch3, hn_ch3⟩ : ∃ z : Int32, z = ((p2 &&& (255 : Int32)).toUInt32.toUInt16.toUInt32.toInt32) := ⟨_, rfl⟩
          rw [← hn_ch3]
          have rng_ch3 : ¬ ch3 < 0 ∧ ¬ (255 : Int32) < ch3 := by rw [hn_ch3]; exact own_and255 _
          obtain ⟨cl79, Ar79, q79, S79, M79, H79, U79⟩ := id V75
          obtain ⟨T79, h79, X79, e79, W79, st79⟩ := stC X75 hx hZ e75 Ar79 (j := (0 : Int32)) (inb_of S79 ⟨by decide, by decide⟩) (g := (mkF m 218 #[.val (.int p0), .val (.int p1), .val (.int p2), .val (.int p3), .val (.int p4), .val (.int ia), .val (.int ib), .val (.ref b1), .val (.ref b30), .val (.int kd), .val (.ref b75)] [(.int ch3), (.int (0 : Int32)), (.ref b75)])) rfl rfl (hb hby at_218)
          have sf79 : Safe Z own_EL T47.vm h75 b75 := (Safe.arv hZ.alike V75 (by decide))
          have sz80 : h75.size ≤ h79.size := Nat.le_of_eq W79.size.symm
          have R81 : CHr Z own_EL s.vm h0 T47.vm h79 := R78.trans (CHr.wr W79 sf79 R78.1)
          have O82 : Old Z n0 h79 := O77.wr W79 (by omega : n0 ≤ b75)
          have N79 := Fr.snoc X79 N47 (by omega : n0 ≤ b75)
          rw [own_narc rng_ch3] at W79
          have V79 : Arv Z h79 b75 k75 .char (1 : Int32) [(.int ch3)] (.int (0 : Int32)) := Arv.set Ar79 q79 S79 M79 H79 U79 (own_fitc rng_ch3) W79 0 rfl (Nat.le_of_ble_eq_true rfl)
          refine own_via (S' := T79.setTop (mkF m 219 #[.val (.int p0), .val (.int p1), .val (.int p2), .val (.int p3), .val (.int p4), .val (.int ia), .val (.int ib), .val (.ref b1), .val (.ref b30), .val (.int kd), .val (.ref b75)] [])) st79 ?_
          refine own_via (S' := T79.setTop (mkF m 221 #[.val (.int p0), .val (.int p1), .val (.int p2), .val (.int p3), .val (.int p4), .val (.int ia), .val (.int ib), .val (.ref b1), .val (.ref b30), .val (.int kd), .val (.ref b75)] [(.ref b1)])) (fun t k => XS.aload X79.here hx rfl (hb hby at_219) rfl rfl k) ?_
          obtain ⟨T83, h83, X83, e83, E83, A83, D83, -, st83⟩ := newO X79 hx hZ hown (wd73 hw) (wd22 hw) (wd21 hw) e79 (g := (mkF m 221 #[.val (.int p0), .val (.int p1), .val (.int p2), .val (.int p3), .val (.int p4), .val (.int ia), .val (.int ib), .val (.ref b1), .val (.ref b30), .val (.int kd), .val (.ref b75)] [(.ref b1)])) rfl (hb hby at_221) (by decide) (by decide)
          obtain ⟨b83, g83⟩ : ∃ z, z = h79.size := ⟨_, rfl⟩
          rw [← g83] at A83 D83 st83
          have lt_b83 : h83.size > b83 := A83.lt
          have sz84 : h79.size ≤ h83.size := E83.1
          have O85 : Old Z n0 h83 := O82.ext E83
          have R86 : CHr Z own_EL s.vm h0 T47.vm h83 := R81.trans (CHr.ext E83 R81.1)
          have SF_b83 : Safe Z own_EL T47.vm h83 b83 := Safe.ext E83 R81.1 (Safe.new (Nat.le_of_eq g83.symm))
          have F83_value : Fld Z h83 b83 "java/lang/String" "value" "[B" .null := D83 (Or.inr (wd24 hw)) (ty := (.array .byte)) (by decide)
          have F83_coder : Fld Z h83 b83 "java/lang/String" "coder" "B" (.int (0 : Int32)) := D83 (Or.inr (wd25 hw)) (ty := .byte) (by decide)
          refine own_via (S' := T83.setTop (mkF m 224 #[.val (.int p0), .val (.int p1), .val (.int p2), .val (.int p3), .val (.int p4), .val (.int ia), .val (.int ib), .val (.ref b1), .val (.ref b30), .val (.int kd), .val (.ref b75)] [(.ref b83), (.ref b1)])) st83 ?_
          refine own_via (S' := T83.setTop (mkF m 225 #[.val (.int p0), .val (.int p1), .val (.int p2), .val (.int p3), .val (.int p4), .val (.int ia), .val (.int ib), .val (.ref b1), .val (.ref b30), .val (.int kd), .val (.ref b75)] [(.ref b83), (.ref b83), (.ref b1)])) (fun t k => XS.dup X83.here hx rfl (hb hby at_224) rfl rfl k) ?_
          refine own_via (S' := T83.setTop (mkF m 227 #[.val (.int p0), .val (.int p1), .val (.int p2), .val (.int p3), .val (.int p4), .val (.int ia), .val (.int ib), .val (.ref b1), .val (.ref b30), .val (.int kd), .val (.ref b75)] [(.ref b75), (.ref b83), (.ref b83), (.ref b1)])) (fun t k => XS.aload X83.here hx rfl (hb hby at_225) rfl rfl k) ?_
          have cx88 : Arv Z h83 b75 k75 .char (1 : Int32) [(.int ch3)] (.int (0 : Int32)) := (V79.ext E83)
          have cx89 : Sta Z h83 "java/lang/String" "COMPACT_STRINGS" "Z" (.int zc) := zf_S_java_lang_String_COMPACT_STRINGS.ext O85.2
          have hws87 := own_mw hw
          have hp87 : ∀ c ∈ ([ch3] : List Int32), ¬ c < 0 ∧ ¬ (255 : Int32) < c := by
            intro c hc
            simp only [List.mem_cons, List.not_mem_nil, or_false] at hc
            rcases hc with rfl
            · exact rng_ch3
          obtain ⟨_, _, ⟨T87, Lp87, kp87, np87⟩, -, X87, ⟨Lc87, hQ87, l87, y87, z87⟩, st87⟩ := X83.specialBack hx (y := mt11) rfl hown (mvT hZ (wd74 hw)) (mvT hZ (wd75 hw)) (mvT hZ (wd76 hw)) (by decide) (StrChars.Road.backV (W := 2) hZ hws87 (kI := 4) (wd22 hw) (cs := ([ch3] : List Int32)) (bs := (([ch3] : List Int32)).map (fun c => c.toInt8.toInt32)) (n := 1) (by omega : n0 ≤ b83) (by omega : n0 ≤ h83.size) A83 F83_value F83_coder cx88 cx89 hzc rfl rfl (by decide) (by decide) hp87 rfl (by decide) (by decide)) (g := (mkF m 227 #[.val (.int p0), .val (.int p1), .val (.int p2), .val (.int p3), .val (.int p4), .val (.int ia), .val (.int ib), .val (.ref b1), .val (.ref b30), .val (.int kd), .val (.ref b75)] [(.ref b75), (.ref b83), (.ref b83), (.ref b1)])) rfl (by rw [hml]; rfl) (Steps.refl _) (a := b83) (argsL := [(.ref b75)]) (rest := [(.ref b83), (.ref b1)]) (lenOf pd___C_V_325 rfl) rfl (by show 2 * 0 + _ ≤ _; exact Nat.le_of_eq rfl) (hb hby at_227) (fun _ _ => ⟨rfl, e83, (by decide : 22 + 1 ≤ _), (by decide : 223 + 1 ≤ _)⟩)
          dsimp only [Pt.U, Pt.locs, Pt.cells, Pt.slots] at X87 l87 y87 z87 st87 hQ87
          subst Lp87 kp87 np87
          obtain ⟨rfl, N87q, K87q, f87_0, f87_1, t87, kb87, tg87, tg87', tn87, f87_2, f87_3⟩ := hQ87
          have N87 := Fr.app N79 N87q
          have sf87 : ∀ x ∈ ([b83] : List Addr), Safe Z own_EL T47.vm h83 x := (sfS SF_b83 sf0)
          have sz90 : h83.size ≤ T87.heap.size := K87q.1
          have R91 : CHr Z own_EL s.vm h0 T47.vm T87.heap := R86.trans (CHr.keep K87q sf87 R86.1)
          have O92 : Old Z n0 T87.heap := O85.keep K87q (allS (by omega : n0 ≤ b83) all0)
          have lt_t87 : T87.heap.size > t87 := f87_3.lt
          refine own_tr (S' := T87.setTop (mkF m 230 #[.val (.int p0), .val (.int p1), .val (.int p2), .val (.int p3), .val (.int p4), .val (.int ia), .val (.int ib), .val (.ref b1), .val (.ref b30), .val (.int kd), .val (.ref b75)] [(.ref b83), (.ref b1)])) st87 ?_
          have cx94 : Exa Z T87.heap b1 "com/example/object_access_rules/objectaccessrules/Result" := (((Exa.wr W79 (((((cx19.keep K18q).ext E30).keep K40q).keep K47q).ext E75)).ext E83).keep K87q)
          obtain ⟨cq93, kq93, q93a, q93b, q93c⟩ := isOf hZ rfl cx94
          obtain ⟨_, _, ⟨T93, Lp93, kp93, np93⟩, -, X93, ⟨Lc93, hQ93, l93, y93, z93⟩, st93⟩ := X87.virtualBack hx (y := mt13) (z := mt13) hown (mvT hZ (wd93 hw)) (mvT hZ (wd94 hw)) (notFace_of_selects (args := #[]) (mvT hZ (wd96 hw))) (mvT hZ (wd96 hw)) (mvT hZ (wd95 hw)) (by decide) (backOf (W := 0) (own_eqS l Z a0 hw [] b1 b83 T87.heap n0 O92 f87_0) hZ (wd97 hw) (wd3 hw) (by decide) (by decide)) q93a q93c (g := (mkF m 230 #[.val (.int p0), .val (.int p1), .val (.int p2), .val (.int p3), .val (.int p4), .val (.int ia), .val (.int ib), .val (.ref b1), .val (.ref b30), .val (.int kd), .val (.ref b75)] [(.ref b83), (.ref b1)])) rfl (by rw [hml]; rfl) (Steps.refl _) (argsL := [(.ref b83)]) (rest := []) (lenOf pd__Ljava_lang_Object__Z_1835 rfl) rfl (by show 2 * 0 + _ ≤ _; exact Nat.le_of_eq rfl) (hb hby at_230) (fun _ _ => ⟨rfl, rfl, (by decide : 23 + 0 ≤ _), (by decide : 224 + 0 ≤ _)⟩)
          dsimp only [Pt.U, Pt.locs, Pt.cells, Pt.slots] at X93 l93 y93 z93 st93 hQ93
          subst Lp93 kp93 np93
          obtain ⟨rfl, rfl, e93⟩ := hQ93
          try rw [List.append_nil] at X93
          refine own_tr (S' := T93.setTop (mkF m 233 #[.val (.int p0), .val (.int p1), .val (.int p2), .val (.int p3), .val (.int p4), .val (.int ia), .val (.int ib), .val (.ref b1), .val (.ref b30), .val (.int kd), .val (.ref b75)] [(.int (0 : Int32))])) st93 ?_
          refine own_via (S' := T93.setTop (mkF m 236 #[.val (.int p0), .val (.int p1), .val (.int p2), .val (.int p3), .val (.int p4), .val (.int ia), .val (.int ib), .val (.ref b1), .val (.ref b30), .val (.int kd), .val (.ref b75)] [])) (fun t k => XS.ifNo X93.here hx rfl (hb hby at_233) rfl ((if0 _ _).trans (teq (by decide : (0 : Int32) = (0 : Int32))).2) k) ?_
          refine own_via (S' := T93.setTop (mkF m 237 #[.val (.int p0), .val (.int p1), .val (.int p2), .val (.int p3), .val (.int p4), .val (.int ia), .val (.int ib), .val (.ref b1), .val (.ref b30), .val (.int kd), .val (.ref b75)] [(.int (1 : Int32))])) (fun t k => XS.iconst X93.here hx rfl (hb hby at_236) k) ?_
          refine own_via (S' := T93.setTop (mkF m 241 #[.val (.int p0), .val (.int p1), .val (.int p2), .val (.int p3), .val (.int p4), .val (.int ia), .val (.int ib), .val (.ref b1), .val (.ref b30), .val (.int kd), .val (.ref b75)] [(.int (1 : Int32))])) (fun t k => XS.goto X93.here hx rfl (pc0 := 237) (pc' := 241) rfl (hb hby at_237) (by decide) (by decide) k) ?_
          have RTR91 : CHr Z own_EL s.vm h0 T93.vm T87.heap := R91.trans (CHv.at X93 hZ hEL R91.1)
          have RXR91 : CHr Z own_EL s.vm s.heap T93.vm T93.heap := by rw [hh, e93]; exact RTR91
          refine own_retW (Q := Q_own_law Z p0 p1 p2 p3 p4 zc wP wD wN wI wO wM wG wY h0 n0) (C := room_1.cells) (N := room_1.slots) X93 hSn47 (by rw [e93]; omega) (v := some (.int (1 : Int32))) (fun h => by rw [Bd.returns] at h; cases h) Bd.notSynchronized ?_ RXR91 (by decide) (by decide) (fun fs hr => retN X93 hx (t := .boolean) Bd.returns (by simp) (hb hby at_241) hr)
          show Q_own_law Z p0 p1 p2 p3 p4 zc wP wD wN wI wO wM wG wY h0 n0 _ T93.vm T93.heap _
          rw [e93]
          exact ⟨rfl, N87⟩
        · -- no
          refine own_via (S' := T47.setTop (mkF m 242 #[.val (.int p0), .val (.int p1), .val (.int p2), .val (.int p3), .val (.int p4), .val (.int ia), .val (.int ib), .val (.ref b1), .val (.ref b30), .val (.int kd), .unset] [])) (fun t k => XS.icmpYes X47.here hx rfl (pc0 := 201) (pc' := 242) rfl (hb hby at_201) rfl (feq hc201_74).2 (by decide) (by decide) k) ?_
          refine own_via (S' := T47.setTop (mkF m 244 #[.val (.int p0), .val (.int p1), .val (.int p2), .val (.int p3), .val (.int p4), .val (.int ia), .val (.int ib), .val (.ref b1), .val (.ref b30), .val (.int kd), .unset] [(.ref b1)])) (fun t k => XS.aload X47.here hx rfl (hb hby at_242) rfl rfl k) ?_
          refine own_via (S' := T47.setTop (mkF m 246 #[.val (.int p0), .val (.int p1), .val (.int p2), .val (.int p3), .val (.int p4), .val (.int ia), .val (.int ib), .val (.ref b1), .val (.ref b30), .val (.int kd), .unset] [(.ref b1), (.ref b1)])) (fun t k => XS.aload X47.here hx rfl (hb hby at_244) rfl rfl k) ?_
          have ne_b1_b30 : b1 ≠ b30 := by omega
          have cx96 : Fld Z T47.heap b1 "com/example/object_access_rules/objectaccessrules/Result" "decision" "Lcom/example/object_access_rules/objectaccessrules/Decision;" (.ref z5) := (((f18_0.ext E30).keep K40q nin0).keep K47q (ninS ne_b1_b30 nin0))
          have cx97 : Fld Z T47.heap b1 "com/example/object_access_rules/objectaccessrules/Result" "status" "Lcom/example/object_access_rules/objectaccessrules/StatusCode;" (.ref z7) := (((f18_1.ext E30).keep K40q nin0).keep K47q (ninS ne_b1_b30 nin0))
          have cx98 : Exa Z T47.heap b1 "com/example/object_access_rules/objectaccessrules/Result" := ((((cx19.keep K18q).ext E30).keep K40q).keep K47q)
          obtain ⟨cq95, kq95, q95a, q95b, q95c⟩ := isOf hZ rfl cx98
          obtain ⟨_, _, ⟨T95, Lp95, kp95, np95⟩, -, X95, ⟨Lc95, hQ95, l95, y95, z95⟩, st95⟩ := X47.virtualBack hx (y := mt13) (z := mt13) hown (mvT hZ (wd93 hw)) (mvT hZ (wd94 hw)) (notFace_of_selects (args := #[]) (mvT hZ (wd96 hw))) (mvT hZ (wd96 hw)) (mvT hZ (wd95 hw)) (by decide) (backOf (W := 0) (own_eqR l Z a0 hw [] b1 b1 z5 z7 z5 z7 T47.heap n0 O58 cx96 cx97 cx96 cx97 cx98) hZ (wd97 hw) (wd3 hw) (by decide) (by decide)) q95a q95c (g := (mkF m 246 #[.val (.int p0), .val (.int p1), .val (.int p2), .val (.int p3), .val (.int p4), .val (.int ia), .val (.int ib), .val (.ref b1), .val (.ref b30), .val (.int kd), .unset] [(.ref b1), (.ref b1)])) rfl (by rw [hml]; rfl) (Steps.refl _) (argsL := [(.ref b1)]) (rest := []) (lenOf pd__Ljava_lang_Object__Z_1835 rfl) rfl (by show 2 * 0 + _ ≤ _; exact Nat.le_of_eq rfl) (hb hby at_246) (fun _ _ => ⟨rfl, rfl, (by decide : 20 + 0 ≤ _), (by decide : 218 + 0 ≤ _)⟩)
          dsimp only [Pt.U, Pt.locs, Pt.cells, Pt.slots] at X95 l95 y95 z95 st95 hQ95
          subst Lp95 kp95 np95
          obtain ⟨z95, rfl, rfl, e95, hz95_0⟩ := hQ95
          try rw [List.append_nil] at X95
          refine own_tr (S' := T95.setTop (mkF m 249 #[.val (.int p0), .val (.int p1), .val (.int p2), .val (.int p3), .val (.int p4), .val (.int ia), .val (.int ib), .val (.ref b1), .val (.ref b30), .val (.int kd), .unset] [(.int z95)])) st95 ?_
          obtain rfl : z95 = (1 : Int32) := hz95_0.trans ((if_pos rfl).trans (if_pos rfl))
          have RTR57 : CHr Z own_EL s.vm h0 T95.vm T47.heap := R57.trans (CHv.at X95 hZ hEL R57.1)
          have RXR57 : CHr Z own_EL s.vm s.heap T95.vm T95.heap := by rw [hh, e95]; exact RTR57
          refine own_retW (Q := Q_own_law Z p0 p1 p2 p3 p4 zc wP wD wN wI wO wM wG wY h0 n0) (C := room_1.cells) (N := room_1.slots) X95 hSn47 (by rw [e95]; omega) (v := some (.int (1 : Int32))) (fun h => by rw [Bd.returns] at h; cases h) Bd.notSynchronized ?_ RXR57 (by decide) (by decide) (fun fs hr => retN X95 hx (t := .boolean) Bd.returns (by simp) (hb hby at_249) hr)
          show Q_own_law Z p0 p1 p2 p3 p4 zc wP wD wN wI wO wM wG wY h0 n0 _ T95.vm T95.heap _
          rw [e95]
          exact ⟨rfl, N47⟩
  · -- no
    refine own_via (S' := T47.setTop (mkF m 101 #[.val (.int p0), .val (.int p1), .val (.int p2), .val (.int p3), .val (.int p4), .val (.int ia), .val (.int ib), .val (.ref b1), .val (.ref b30), .unset, .unset] [])) (fun t k => XS.ifNo X47.here hx rfl (hb hby at_98) rfl ((if0 _ _).trans (feq hc98_59).1) k) ?_
    refine own_via (S' := T47.setTop (mkF m 103 #[.val (.int p0), .val (.int p1), .val (.int p2), .val (.int p3), .val (.int p4), .val (.int ia), .val (.int ib), .val (.ref b1), .val (.ref b30), .unset, .unset] [(.ref b30)])) (fun t k => XS.aload X47.here hx rfl (hb hby at_101) rfl rfl k) ?_
    refine own_via (S' := T47.setTop (mkF m 104 #[.val (.int p0), .val (.int p1), .val (.int p2), .val (.int p3), .val (.int p4), .val (.int ia), .val (.int ib), .val (.ref b1), .val (.ref b30), .unset, .unset] [(.int p3), (.ref b30)])) (fun t k => XS.iloadN X47.here hx rfl (hb hby at_103) rfl k) ?_
    refine own_via (S' := T47.setTop (mkF m 106 #[.val (.int p0), .val (.int p1), .val (.int p2), .val (.int p3), .val (.int p4), .val (.int ia), .val (.int ib), .val (.ref b1), .val (.ref b30), .unset, .unset] [(.int (16 : Int32)), (.int p3), (.ref b30)])) (fun t k => XS.bipush X47.here hx rfl (hb hby at_104) k) ?_
    refine own_via (S' := T47.setTop (mkF m 107 #[.val (.int p0), .val (.int p1), .val (.int p2), .val (.int p3), .val (.int p4), .val (.int ia), .val (.int ib), .val (.ref b1), .val (.ref b30), .unset, .unset] [(.int ((p3.toUInt32 >>> ((16 : Int32) &&& 31).toUInt32).toInt32)), (.ref b30)])) (fun t k => XS.iushr X47.here hx rfl (hb hby at_106) rfl k) ?_
    refine own_via (S' := T47.setTop (mkF m 110 #[.val (.int p0), .val (.int p1), .val (.int p2), .val (.int p3), .val (.int p4), .val (.int ia), .val (.int ib), .val (.ref b1), .val (.ref b30), .unset, .unset] [(.int (255 : Int32)), (.int ((p3.toUInt32 >>> ((16 : Int32) &&& 31).toUInt32).toInt32)), (.ref b30)])) (fun t k => XS.sipush X47.here hx rfl (hb hby at_107) k) ?_
    refine own_via (S' := T47.setTop (mkF m 111 #[.val (.int p0), .val (.int p1), .val (.int p2), .val (.int p3), .val (.int p4), .val (.int ia), .val (.int ib), .val (.ref b1), .val (.ref b30), .unset, .unset] [(.int (((p3.toUInt32 >>> ((16 : Int32) &&& 31).toUInt32).toInt32) &&& (255 : Int32))), (.ref b30)])) (fun t k => XS.iand X47.here hx rfl (hb hby at_110) rfl k) ?_
    refine own_via (S' := T47.setTop (mkF m 112 #[.val (.int p0), .val (.int p1), .val (.int p2), .val (.int p3), .val (.int p4), .val (.int ia), .val (.int ib), .val (.ref b1), .val (.ref b30), .unset, .unset] [(.int ((((p3.toUInt32 >>> ((16 : Int32) &&& 31).toUInt32).toInt32) &&& (255 : Int32)).toUInt32.toUInt16.toUInt32.toInt32)), (.ref b30)])) (fun t k => XS.i2c X47.here hx rfl (hb hby at_111) rfl k) ?_
    obtain ⟨ch2, hn_ch2⟩ : ∃ z : Int32, z = ((((p3.toUInt32 >>> ((16 : Int32) &&& 31).toUInt32).toInt32) &&& (255 : Int32)).toUInt32.toUInt16.toUInt32.toInt32) := ⟨_, rfl⟩
    rw [← hn_ch2]
    have rng_ch2 : ¬ ch2 < 0 ∧ ¬ (255 : Int32) < ch2 := by rw [hn_ch2]; exact own_and255 _
    obtain ⟨_, _, ⟨T99, Lp99, kp99, np99⟩, -, X99, ⟨Lc99, hQ99, l99, y99, z99⟩, st99⟩ := Jvm.LawKit.callS X47 hx (y := mt7) hown (mvT hZ (wd102 hw)) (mvT hZ (wd103 hw)) (mvT hZ (wd21 hw)) (mvT hZ (wd104 hw)) (by decide) (backOf (W := 1) (own_valueOf l Z a0 hw [] ch2 zc T47.heap n0 O58 zf_S_java_lang_String_COMPACT_STRINGS hzc rng_ch2) hZ (wd104 hw) (wd21 hw) (by decide) (by decide)) (g := (mkF m 112 #[.val (.int p0), .val (.int p1), .val (.int p2), .val (.int p3), .val (.int p4), .val (.int ia), .val (.int ib), .val (.ref b1), .val (.ref b30), .unset, .unset] [(.int ch2), (.ref b30)])) rfl (by rw [hml]; rfl) (argsL := [(.int ch2)]) (rest := [(.ref b30)]) (lenOf pd__C_Ljava_lang_String__1844 rfl) rfl (by show 2 * 0 + _ ≤ _; exact Nat.le_of_eq rfl) (hb hby at_112) (fun _ _ => ⟨rfl, rfl, (by decide : 20 + 2 ≤ _), (by decide : 218 + 5 ≤ _)⟩)
    dsimp only [Pt.U, Pt.locs, Pt.cells, Pt.slots] at X99 l99 y99 z99 st99 hQ99
    subst Lp99 kp99 np99
    obtain ⟨b99, rfl, N99q, K99q, f99_0⟩ := hQ99
    have N99 := Fr.app N47 N99q
    have sf99 : ∀ x ∈ ([] : List Addr), Safe Z own_EL T47.vm T47.heap x := sf0
    have sz100 : T47.heap.size ≤ T99.heap.size := K99q.1
    have R101 : CHr Z own_EL s.vm h0 T47.vm T99.heap := R57.trans (CHr.keep K99q sf99 R57.1)
    have O102 : Old Z n0 T99.heap := O58.keep K99q all0
    have lt103_b99 : T99.heap.size > b99 := f99_0.lt
    refine own_via (S' := T99.setTop (mkF m 115 #[.val (.int p0), .val (.int p1), .val (.int p2), .val (.int p3), .val (.int p4), .val (.int ia), .val (.int ib), .val (.ref b1), .val (.ref b30), .unset, .unset] [(.ref b99), (.ref b30)])) st99 ?_
    have cx105 : Exa Z T99.heap b30 "com/example/object_access_rules/objectaccessrules/Result" := ((cx48.keep K47q).keep K99q)
    have cx106 : Fld Z T99.heap b30 "com/example/object_access_rules/objectaccessrules/Result" "decision" "Lcom/example/object_access_rules/objectaccessrules/Decision;" (.ref z34) := (f47_0.keep K99q nin0)
    have cx107 : Fld Z T99.heap b30 "com/example/object_access_rules/objectaccessrules/Result" "status" "Lcom/example/object_access_rules/objectaccessrules/StatusCode;" (.ref z36) := (f47_1.keep K99q nin0)
    have cx108 : Fld Z T99.heap b30 "com/example/object_access_rules/objectaccessrules/Result" "message" "Ljava/lang/String;" (.ref b40) := (f47_2.keep K99q nin0)
    have cx109 : Exa Z T99.heap z34 "com/example/object_access_rules/objectaccessrules/Decision" := ((cx54.keep K47q).keep K99q)
    have cx110 : Exa Z T99.heap z36 "com/example/object_access_rules/objectaccessrules/StatusCode" := ((cx55.keep K47q).keep K99q)
    have cx111 : Exa Z T99.heap b40 "java/lang/String" := ((f40_0.keep K47q).keep K99q)
    have ne_b40_b30 : b40 ≠ b30 := by first | omega | exact Exa.ne cx111 cx105 (by decide)
    have cx112 : Fld Z T99.heap b40 "java/lang/String" "value" "[B" (.ref tb40) := ((f40_1.keep K47q (ninS ne_b40_b30 nin0)).keep K99q nin0)
    have ne_tb40_b30 : tb40 ≠ b30 := by first | omega | exact (Exa.neArv cx48 f40_2 (wd2 hw)).symm
    have cx113 : Arv Z T99.heap tb40 kb40 .byte zl40 vs40 (.int (0 : Int32)) := ((f40_2.keep K47q (ninS ne_tb40_b30 nin0)).keep K99q nin0)
    have hk104 : T47.heap.size ≤ T99.heap.size := by omega
    obtain ⟨cq104, kq104, q104a, q104b, q104c⟩ := isOf hZ rfl cx105
    obtain ⟨_, _, ⟨T104, Lp104, kp104, np104⟩, -, X104, hS104, hgr104, ⟨Lc104, ⟨hQ104, R104q⟩, l104, y104, z104⟩, st104⟩ := X99.virtualBackS hx (y := mt12) (z := mt12) hown (mvT hZ (wd116 hw)) (mvT hZ (wd117 hw)) (notFace_of_selects (args := #[]) (mvT hZ (wd119 hw))) (mvT hZ (wd119 hw)) (mvT hZ (wd118 hw)) (by decide) (own_backW (SL := []) (W := 0) (own_through l Z a0 hw [] b30 b99 z34 z36 b40 tb40 kb40 zl40 vs40 wI wO wN T99.heap n0 O102 zf_S_com_example_object_access_rules_objectaccessrules_Decision_INDETERMINATE zf_S_com_example_object_access_rules_objectaccessrules_StatusCode_OK zf_S_com_example_object_access_rules_objectaccessrules_Decision_NOT_APPLICABLE cx105 cx106 cx107 cx108 cx109 cx110 cx111 cx112 cx113 (own_cons (own_r6 hn_ib) hD hS hz34_0 hz36_0 pp40_0)) hZ (wd120 hw) (wd3 hw) (by decide) (by decide) hEL R101.1 all0) q104a q104c (g := (mkF m 115 #[.val (.int p0), .val (.int p1), .val (.int p2), .val (.int p3), .val (.int p4), .val (.int ia), .val (.int ib), .val (.ref b1), .val (.ref b30), .unset, .unset] [(.ref b99), (.ref b30)])) rfl (by rw [hml]; rfl) (Steps.refl _) (argsL := [(.ref b99)]) (rest := []) (lenOf pd__Ljava_lang_String__Lcom_example_object_access_rules_objectaccessrules_Result__7620 rfl) rfl (by show 2 * 0 + _ ≤ _; exact Nat.le_of_eq rfl) (hb hby at_115) (fun _ _ => ⟨rfl, rfl, (by decide : 22 + 7 ≤ _), (by decide : 223 + 101 ≤ _)⟩)
    dsimp only [Pt.U, Pt.locs, Pt.cells, Pt.slots] at X104 l104 y104 z104 st104 hQ104 hS104 hgr104 R104q
    subst Lp104 kp104 np104
    obtain ⟨X104, hSn104, hZ, hown⟩ := rebS hSn47 hk104 X104 hS104 hgr104 hZ hown
    obtain ⟨b104, rfl, N104q, K104q, f104_0, f104_1, f104_2⟩ := hQ104
    have N104 := Fr.app N99 N104q
    have sz114 : T99.heap.size ≤ T104.heap.size := K104q.1
    have R115 : CHr Z own_EL s.vm h0 T104.vm T104.heap := R101.trans R104q
    have O116 : Old Z n0 T104.heap := O102.keep K104q all0
    have lt117_b104 : T104.heap.size > b104 := f104_0.lt
    have lt118_b104 : T104.heap.size > b104 := f104_1.lt
    have lt119_b104 : T104.heap.size > b104 := f104_2.lt
    refine own_tr (S' := T104.setTop (mkF m 118 #[.val (.int p0), .val (.int p1), .val (.int p2), .val (.int p3), .val (.int p4), .val (.int ia), .val (.int ib), .val (.ref b1), .val (.ref b30), .unset, .unset] [(.ref b104)])) st104 ?_
    refine own_via (S' := T104.setTop (mkF m 120 #[.val (.int p0), .val (.int p1), .val (.int p2), .val (.int p3), .val (.int p4), .val (.int ia), .val (.int ib), .val (.ref b1), .val (.ref b104), .unset, .unset] [])) (fun t k => XS.astore X104.here hx rfl (hb hby at_118) rfl rfl (l' := #[.val (.int p0), .val (.int p1), .val (.int p2), .val (.int p3), .val (.int p4), .val (.int ia), .val (.int ib), .val (.ref b1), .val (.ref b104), .unset, .unset]) rfl k) ?_
    refine own_via (S' := T104.setTop (mkF m 122 #[.val (.int p0), .val (.int p1), .val (.int p2), .val (.int p3), .val (.int p4), .val (.int ia), .val (.int ib), .val (.ref b1), .val (.ref b104), .unset, .unset] [(.int p4)])) (fun t k => XS.iload X104.here hx rfl (hb hby at_120) rfl k) ?_
    refine own_via (S' := T104.setTop (mkF m 123 #[.val (.int p0), .val (.int p1), .val (.int p2), .val (.int p3), .val (.int p4), .val (.int ia), .val (.int ib), .val (.ref b1), .val (.ref b104), .unset, .unset] [(.int (1 : Int32)), (.int p4)])) (fun t k => XS.iconst X104.here hx rfl (hb hby at_122) k) ?_
    refine own_via (S' := T104.setTop (mkF m 124 #[.val (.int p0), .val (.int p1), .val (.int p2), .val (.int p3), .val (.int p4), .val (.int ia), .val (.int ib), .val (.ref b1), .val (.ref b104), .unset, .unset] [(.int ((p4.toUInt32 >>> ((1 : Int32) &&& 31).toUInt32).toInt32))])) (fun t k => XS.iushr X104.here hx rfl (hb hby at_123) rfl k) ?_
    refine own_via (S' := T104.setTop (mkF m 125 #[.val (.int p0), .val (.int p1), .val (.int p2), .val (.int p3), .val (.int p4), .val (.int ia), .val (.int ib), .val (.ref b1), .val (.ref b104), .unset, .unset] [(.int (3 : Int32)), (.int ((p4.toUInt32 >>> ((1 : Int32) &&& 31).toUInt32).toInt32))])) (fun t k => XS.iconst X104.here hx rfl (hb hby at_124) k) ?_
    refine own_via (S' := T104.setTop (mkF m 126 #[.val (.int p0), .val (.int p1), .val (.int p2), .val (.int p3), .val (.int p4), .val (.int ia), .val (.int ib), .val (.ref b1), .val (.ref b104), .unset, .unset] [(.int (((p4.toUInt32 >>> ((1 : Int32) &&& 31).toUInt32).toInt32) &&& (3 : Int32)))])) (fun t k => XS.iand X104.here hx rfl (hb hby at_125) rfl k) ?_
    refine own_via (S' := T104.setTop (mkF m 128 #[.val (.int p0), .val (.int p1), .val (.int p2), .val (.int p3), .val (.int p4), .val (.int ia), .val (.int ib), .val (.ref b1), .val (.ref b104), .val (.int (((p4.toUInt32 >>> ((1 : Int32) &&& 31).toUInt32).toInt32) &&& (3 : Int32))), .unset] [])) (fun t k => XS.istore X104.here hx rfl (hb hby at_126) rfl (l' := #[.val (.int p0), .val (.int p1), .val (.int p2), .val (.int p3), .val (.int p4), .val (.int ia), .val (.int ib), .val (.ref b1), .val (.ref b104), .val (.int (((p4.toUInt32 >>> ((1 : Int32) &&& 31).toUInt32).toInt32) &&& (3 : Int32))), .unset]) rfl k) ?_
    obtain ⟨kd, hn_kd⟩ : ∃ z : Int32, z = (((p4.toUInt32 >>> ((1 : Int32) &&& 31).toUInt32).toInt32) &&& (3 : Int32)) := ⟨_, rfl⟩
    rw [← hn_kd]
    refine own_via (S' := T104.setTop (mkF m 130 #[.val (.int p0), .val (.int p1), .val (.int p2), .val (.int p3), .val (.int p4), .val (.int ia), .val (.int ib), .val (.ref b1), .val (.ref b104), .val (.int kd), .unset] [(.int kd)])) (fun t k => XS.iload X104.here hx rfl (hb hby at_128) rfl k) ?_
    by_cases hc130_120 : kd = (0 : Int32)
    · -- yes
      refine own_via (S' := T104.setTop (mkF m 133 #[.val (.int p0), .val (.int p1), .val (.int p2), .val (.int p3), .val (.int p4), .val (.int ia), .val (.int ib), .val (.ref b1), .val (.ref b104), .val (.int kd), .unset] [])) (fun t k => XS.ifNo X104.here hx rfl (hb hby at_130) rfl ((if0 _ _).trans (teq hc130_120).2) k) ?_
      refine own_via (S' := T104.setTop (mkF m 135 #[.val (.int p0), .val (.int p1), .val (.int p2), .val (.int p3), .val (.int p4), .val (.int ia), .val (.int ib), .val (.ref b1), .val (.ref b104), .val (.int kd), .unset] [(.int ia)])) (fun t k => XS.iload X104.here hx rfl (hb hby at_133) rfl k) ?_
      refine own_via (S' := T104.setTop (mkF m 137 #[.val (.int p0), .val (.int p1), .val (.int p2), .val (.int p3), .val (.int p4), .val (.int ia), .val (.int ib), .val (.ref b1), .val (.ref b104), .val (.int kd), .unset] [(.int ib), (.int ia)])) (fun t k => XS.iload X104.here hx rfl (hb hby at_135) rfl k) ?_
      obtain ⟨z121_0, hz121_0⟩ : ∃ z : Int32, z = (if ia = ib then (1 : Int32) else (0 : Int32)) := ⟨_, rfl⟩
      suffices jn121 : ∀ (Tm121 : State), Stand p l e room_1 (s.setVm T104.vm) m #[(.int p0), (.int p1), (.int p2), (.int p3), (.int p4)] below meth c Tm121 (((((([] ++ Lc11) ++ Lc18) ++ Lc40) ++ Lc47) ++ Lc99) ++ Lc104) 29 324 → Tm121.heap = T104.heap → own_Done p e below (fun o U' => ∃ v L, o = .returned v ∧ Q_own_law Z p0 p1 p2 p3 p4 zc wP wD wN wI wO wM wG wY h0 n0 v U'.vm U'.heap L ∧ CHr Z own_EL s.vm s.heap U'.vm U'.heap ∧ ReturnedEndW s o U' L room_1.cells room_1.slots) (Tm121.setTop (mkF m 145 #[.val (.int p0), .val (.int p1), .val (.int p2), .val (.int p3), .val (.int p4), .val (.int ia), .val (.int ib), .val (.ref b1), .val (.ref b104), .val (.int kd), .unset] [(.int z121_0)])) by
        by_cases hc137_122 : ia = ib
        · -- yes
          refine own_via (S' := T104.setTop (mkF m 140 #[.val (.int p0), .val (.int p1), .val (.int p2), .val (.int p3), .val (.int p4), .val (.int ia), .val (.int ib), .val (.ref b1), .val (.ref b104), .val (.int kd), .unset] [])) (fun t k => XS.icmpNo X104.here hx rfl (hb hby at_137) rfl (teq hc137_122).2 k) ?_
          refine own_via (S' := T104.setTop (mkF m 141 #[.val (.int p0), .val (.int p1), .val (.int p2), .val (.int p3), .val (.int p4), .val (.int ia), .val (.int ib), .val (.ref b1), .val (.ref b104), .val (.int kd), .unset] [(.int (1 : Int32))])) (fun t k => XS.iconst X104.here hx rfl (hb hby at_140) k) ?_
          refine own_via (S' := T104.setTop (mkF m 145 #[.val (.int p0), .val (.int p1), .val (.int p2), .val (.int p3), .val (.int p4), .val (.int ia), .val (.int ib), .val (.ref b1), .val (.ref b104), .val (.int kd), .unset] [(.int (1 : Int32))])) (fun t k => XS.goto X104.here hx rfl (pc0 := 141) (pc' := 145) rfl (hb hby at_141) (by decide) (by decide) k) ?_
          have qz121_0 : z121_0 = (1 : Int32) := hz121_0.trans (if_pos hc137_122)
          rw [qz121_0] at jn121
          exact jn121 _ X104 rfl
        · -- no
          refine own_via (S' := T104.setTop (mkF m 144 #[.val (.int p0), .val (.int p1), .val (.int p2), .val (.int p3), .val (.int p4), .val (.int ia), .val (.int ib), .val (.ref b1), .val (.ref b104), .val (.int kd), .unset] [])) (fun t k => XS.icmpYes X104.here hx rfl (pc0 := 137) (pc' := 144) rfl (hb hby at_137) rfl (feq hc137_122).2 (by decide) (by decide) k) ?_
          refine own_via (S' := T104.setTop (mkF m 145 #[.val (.int p0), .val (.int p1), .val (.int p2), .val (.int p3), .val (.int p4), .val (.int ia), .val (.int ib), .val (.ref b1), .val (.ref b104), .val (.int kd), .unset] [(.int (0 : Int32))])) (fun t k => XS.iconst X104.here hx rfl (hb hby at_144) k) ?_
          have qz121_0 : z121_0 = (0 : Int32) := hz121_0.trans (if_neg hc137_122)
          rw [qz121_0] at jn121
          exact jn121 _ X104 rfl
      intro Tm121 Xm121 em121
      refine own_via (S' := Tm121.setTop (mkF m 147 #[.val (.int p0), .val (.int p1), .val (.int p2), .val (.int p3), .val (.int p4), .val (.int ia), .val (.int ib), .val (.ref b1), .val (.ref b104), .val (.int kd), .val (.int z121_0)] [])) (fun t k => XS.istore Xm121.here hx rfl (hb hby at_145) rfl (l' := #[.val (.int p0), .val (.int p1), .val (.int p2), .val (.int p3), .val (.int p4), .val (.int ia), .val (.int ib), .val (.ref b1), .val (.ref b104), .val (.int kd), .val (.int z121_0)]) rfl k) ?_
      refine own_via (S' := Tm121.setTop (mkF m 149 #[.val (.int p0), .val (.int p1), .val (.int p2), .val (.int p3), .val (.int p4), .val (.int ia), .val (.int ib), .val (.ref b1), .val (.ref b104), .val (.int kd), .val (.int z121_0)] [(.ref b1)])) (fun t k => XS.aload Xm121.here hx rfl (hb hby at_147) rfl rfl k) ?_
      refine own_via (S' := Tm121.setTop (mkF m 151 #[.val (.int p0), .val (.int p1), .val (.int p2), .val (.int p3), .val (.int p4), .val (.int ia), .val (.int ib), .val (.ref b1), .val (.ref b104), .val (.int kd), .val (.int z121_0)] [(.ref b104), (.ref b1)])) (fun t k => XS.aload Xm121.here hx rfl (hb hby at_149) rfl rfl k) ?_
      have ne_b1_b30 : b1 ≠ b30 := by omega
      have cx124 : Fld Z T104.heap b1 "com/example/object_access_rules/objectaccessrules/Result" "decision" "Lcom/example/object_access_rules/objectaccessrules/Decision;" (.ref z5) := (((((f18_0.ext E30).keep K40q nin0).keep K47q (ninS ne_b1_b30 nin0)).keep K99q nin0).keep K104q nin0)
      have cx125 : Fld Z T104.heap b1 "com/example/object_access_rules/objectaccessrules/Result" "status" "Lcom/example/object_access_rules/objectaccessrules/StatusCode;" (.ref z7) := (((((f18_1.ext E30).keep K40q nin0).keep K47q (ninS ne_b1_b30 nin0)).keep K99q nin0).keep K104q nin0)
      have cx126 : Exa Z T104.heap b1 "com/example/object_access_rules/objectaccessrules/Result" := ((((((cx19.keep K18q).ext E30).keep K40q).keep K47q).keep K99q).keep K104q)
      obtain ⟨cq123, kq123, q123a, q123b, q123c⟩ := isOf hZ em121 cx126
      obtain ⟨_, _, ⟨T123, Lp123, kp123, np123⟩, -, X123, ⟨Lc123, hQ123, l123, y123, z123⟩, st123⟩ := Xm121.virtualBack hx (y := mt13) (z := mt13) hown (mvT hZ (wd93 hw)) (mvT hZ (wd94 hw)) (notFace_of_selects (args := #[]) (mvT hZ (wd96 hw))) (mvT hZ (wd96 hw)) (mvT hZ (wd95 hw)) (by decide) (backOf (W := 0) (own_eqR l Z a0 hw [] b1 b104 z5 z7 z34 z36 T104.heap n0 O116 cx124 cx125 f104_1 f104_2 f104_0) hZ (wd97 hw) (wd3 hw) (by decide) (by decide)) q123a q123c (g := (mkF m 151 #[.val (.int p0), .val (.int p1), .val (.int p2), .val (.int p3), .val (.int p4), .val (.int ia), .val (.int ib), .val (.ref b1), .val (.ref b104), .val (.int kd), .val (.int z121_0)] [(.ref b104), (.ref b1)])) rfl (by rw [hml]; rfl) (Steps.refl _) (argsL := [(.ref b104)]) (rest := []) (lenOf pd__Ljava_lang_Object__Z_1835 rfl) rfl (by show 2 * 0 + _ ≤ _; exact Nat.le_of_eq rfl) (hb hby at_151) (fun _ _ => ⟨rfl, em121, (by decide : 29 + 0 ≤ _), (by decide : 324 + 0 ≤ _)⟩)
      dsimp only [Pt.U, Pt.locs, Pt.cells, Pt.slots] at X123 l123 y123 z123 st123 hQ123
      subst Lp123 kp123 np123
      obtain ⟨z123, rfl, rfl, e123, hz123_0⟩ := hQ123
      try rw [List.append_nil] at X123
      refine own_tr (S' := T123.setTop (mkF m 154 #[.val (.int p0), .val (.int p1), .val (.int p2), .val (.int p3), .val (.int p4), .val (.int ia), .val (.int ib), .val (.ref b1), .val (.ref b104), .val (.int kd), .val (.int z121_0)] [(.int z123)])) st123 ?_
      refine own_via (S' := T123.setTop (mkF m 156 #[.val (.int p0), .val (.int p1), .val (.int p2), .val (.int p3), .val (.int p4), .val (.int ia), .val (.int ib), .val (.ref b1), .val (.ref b104), .val (.int kd), .val (.int z121_0)] [(.int z121_0), (.int z123)])) (fun t k => XS.iload X123.here hx rfl (hb hby at_154) rfl k) ?_
      have hc156_127 : z123 = z121_0 := own_fin (own_r6 hn_ia) (own_r6 hn_ib) hD hS hz5_0 hz7_0 hz34_0 hz36_0 hz123_0 hz121_0
      refine own_via (S' := T123.setTop (mkF m 159 #[.val (.int p0), .val (.int p1), .val (.int p2), .val (.int p3), .val (.int p4), .val (.int ia), .val (.int ib), .val (.ref b1), .val (.ref b104), .val (.int kd), .val (.int z121_0)] [])) (fun t k => XS.icmpNo X123.here hx rfl (hb hby at_156) rfl (teq hc156_127).2 k) ?_
      refine own_via (S' := T123.setTop (mkF m 161 #[.val (.int p0), .val (.int p1), .val (.int p2), .val (.int p3), .val (.int p4), .val (.int ia), .val (.int ib), .val (.ref b1), .val (.ref b104), .val (.int kd), .val (.int z121_0)] [(.ref b104)])) (fun t k => XS.aload X123.here hx rfl (hb hby at_159) rfl rfl k) ?_
      refine own_via (S' := T123.setTop (mkF m 163 #[.val (.int p0), .val (.int p1), .val (.int p2), .val (.int p3), .val (.int p4), .val (.int ia), .val (.int ib), .val (.ref b1), .val (.ref b104), .val (.int kd), .val (.int z121_0)] [(.ref b1), (.ref b104)])) (fun t k => XS.aload X123.here hx rfl (hb hby at_161) rfl rfl k) ?_
      obtain ⟨cq128, kq128, q128a, q128b, q128c⟩ := isOf hZ e123 f104_0
      obtain ⟨_, _, ⟨T128, Lp128, kp128, np128⟩, -, X128, ⟨Lc128, hQ128, l128, y128, z128⟩, st128⟩ := X123.virtualBack hx (y := mt13) (z := mt13) hown (mvT hZ (wd93 hw)) (mvT hZ (wd94 hw)) (notFace_of_selects (args := #[]) (mvT hZ (wd96 hw))) (mvT hZ (wd96 hw)) (mvT hZ (wd95 hw)) (by decide) (backOf (W := 0) (own_eqR l Z a0 hw [] b104 b1 z34 z36 z5 z7 T104.heap n0 O116 f104_1 f104_2 cx124 cx125 cx126) hZ (wd97 hw) (wd3 hw) (by decide) (by decide)) q128a q128c (g := (mkF m 163 #[.val (.int p0), .val (.int p1), .val (.int p2), .val (.int p3), .val (.int p4), .val (.int ia), .val (.int ib), .val (.ref b1), .val (.ref b104), .val (.int kd), .val (.int z121_0)] [(.ref b1), (.ref b104)])) rfl (by rw [hml]; rfl) (Steps.refl _) (argsL := [(.ref b1)]) (rest := []) (lenOf pd__Ljava_lang_Object__Z_1835 rfl) rfl (by show 2 * 0 + _ ≤ _; exact Nat.le_of_eq rfl) (hb hby at_163) (fun _ _ => ⟨rfl, e123, (by decide : 29 + 0 ≤ _), (by decide : 324 + 0 ≤ _)⟩)
      dsimp only [Pt.U, Pt.locs, Pt.cells, Pt.slots] at X128 l128 y128 z128 st128 hQ128
      subst Lp128 kp128 np128
      obtain ⟨z128, rfl, rfl, e128, hz128_0⟩ := hQ128
      try rw [List.append_nil] at X128
      refine own_tr (S' := T128.setTop (mkF m 166 #[.val (.int p0), .val (.int p1), .val (.int p2), .val (.int p3), .val (.int p4), .val (.int ia), .val (.int ib), .val (.ref b1), .val (.ref b104), .val (.int kd), .val (.int z121_0)] [(.int z128)])) st128 ?_
      refine own_via (S' := T128.setTop (mkF m 168 #[.val (.int p0), .val (.int p1), .val (.int p2), .val (.int p3), .val (.int p4), .val (.int ia), .val (.int ib), .val (.ref b1), .val (.ref b104), .val (.int kd), .val (.int z121_0)] [(.int z121_0), (.int z128)])) (fun t k => XS.iload X128.here hx rfl (hb hby at_166) rfl k) ?_
      have hc168_129 : z128 = z121_0 := own_fin2 (own_r6 hn_ia) (own_r6 hn_ib) hD hS hz34_0 hz36_0 hz5_0 hz7_0 hz128_0 hz121_0
      refine own_via (S' := T128.setTop (mkF m 171 #[.val (.int p0), .val (.int p1), .val (.int p2), .val (.int p3), .val (.int p4), .val (.int ia), .val (.int ib), .val (.ref b1), .val (.ref b104), .val (.int kd), .val (.int z121_0)] [])) (fun t k => XS.icmpNo X128.here hx rfl (hb hby at_168) rfl (teq hc168_129).2 k) ?_
      refine own_via (S' := T128.setTop (mkF m 172 #[.val (.int p0), .val (.int p1), .val (.int p2), .val (.int p3), .val (.int p4), .val (.int ia), .val (.int ib), .val (.ref b1), .val (.ref b104), .val (.int kd), .val (.int z121_0)] [(.int (1 : Int32))])) (fun t k => XS.iconst X128.here hx rfl (hb hby at_171) k) ?_
      refine own_via (S' := T128.setTop (mkF m 176 #[.val (.int p0), .val (.int p1), .val (.int p2), .val (.int p3), .val (.int p4), .val (.int ia), .val (.int ib), .val (.ref b1), .val (.ref b104), .val (.int kd), .val (.int z121_0)] [(.int (1 : Int32))])) (fun t k => XS.goto X128.here hx rfl (pc0 := 172) (pc' := 176) rfl (hb hby at_172) (by decide) (by decide) k) ?_
      have RTR115 : CHr Z own_EL s.vm h0 T128.vm T104.heap := R115.trans (CHv.at X128 hZ hEL R115.1)
      have RXR115 : CHr Z own_EL s.vm s.heap T128.vm T128.heap := by rw [hh, e128]; exact RTR115
      refine own_retW (Q := Q_own_law Z p0 p1 p2 p3 p4 zc wP wD wN wI wO wM wG wY h0 n0) (C := room_1.cells) (N := room_1.slots) X128 hSn104 (by rw [e128]; omega) (v := some (.int (1 : Int32))) (fun h => by rw [Bd.returns] at h; cases h) Bd.notSynchronized ?_ RXR115 (by decide) (by decide) (fun fs hr => retN X128 hx (t := .boolean) Bd.returns (by simp) (hb hby at_176) hr)
      show Q_own_law Z p0 p1 p2 p3 p4 zc wP wD wN wI wO wM wG wY h0 n0 _ T128.vm T128.heap _
      rw [e128]
      exact ⟨rfl, N104⟩
    · -- no
      refine own_via (S' := T104.setTop (mkF m 177 #[.val (.int p0), .val (.int p1), .val (.int p2), .val (.int p3), .val (.int p4), .val (.int ia), .val (.int ib), .val (.ref b1), .val (.ref b104), .val (.int kd), .unset] [])) (fun t k => XS.ifYes X104.here hx rfl (pc0 := 130) (pc' := 177) rfl (hb hby at_130) rfl ((if0 _ _).trans (feq hc130_120).2) (by decide) (by decide) k) ?_
      refine own_via (S' := T104.setTop (mkF m 179 #[.val (.int p0), .val (.int p1), .val (.int p2), .val (.int p3), .val (.int p4), .val (.int ia), .val (.int ib), .val (.ref b1), .val (.ref b104), .val (.int kd), .unset] [(.int kd)])) (fun t k => XS.iload X104.here hx rfl (hb hby at_177) rfl k) ?_
      refine own_via (S' := T104.setTop (mkF m 180 #[.val (.int p0), .val (.int p1), .val (.int p2), .val (.int p3), .val (.int p4), .val (.int ia), .val (.int ib), .val (.ref b1), .val (.ref b104), .val (.int kd), .unset] [(.int (1 : Int32)), (.int kd)])) (fun t k => XS.iconst X104.here hx rfl (hb hby at_179) k) ?_
      by_cases hc180_130 : kd = (1 : Int32)
      · -- yes
        refine own_via (S' := T104.setTop (mkF m 183 #[.val (.int p0), .val (.int p1), .val (.int p2), .val (.int p3), .val (.int p4), .val (.int ia), .val (.int ib), .val (.ref b1), .val (.ref b104), .val (.int kd), .unset] [])) (fun t k => XS.icmpNo X104.here hx rfl (hb hby at_180) rfl (teq hc180_130).2 k) ?_
        refine own_via (S' := T104.setTop (mkF m 185 #[.val (.int p0), .val (.int p1), .val (.int p2), .val (.int p3), .val (.int p4), .val (.int ia), .val (.int ib), .val (.ref b1), .val (.ref b104), .val (.int kd), .unset] [(.ref b1)])) (fun t k => XS.aload X104.here hx rfl (hb hby at_183) rfl rfl k) ?_
        refine own_via (S' := T104.setTop (mkF m 186 #[.val (.int p0), .val (.int p1), .val (.int p2), .val (.int p3), .val (.int p4), .val (.int ia), .val (.int ib), .val (.ref b1), .val (.ref b104), .val (.int kd), .unset] [.null, (.ref b1)])) (fun t k => XS.aconstNull X104.here hx rfl (hb hby at_185) k) ?_
        have cx132 : Exa Z T104.heap b1 "com/example/object_access_rules/objectaccessrules/Result" := ((((((cx19.keep K18q).ext E30).keep K40q).keep K47q).keep K99q).keep K104q)
        obtain ⟨cq131, kq131, q131a, q131b, q131c⟩ := isOf hZ rfl cx132
        obtain ⟨_, _, ⟨T131, Lp131, kp131, np131⟩, -, X131, ⟨Lc131, hQ131, l131, y131, z131⟩, st131⟩ := X104.virtualBack hx (y := mt13) (z := mt13) hown (mvT hZ (wd93 hw)) (mvT hZ (wd94 hw)) (notFace_of_selects (args := #[]) (mvT hZ (wd96 hw))) (mvT hZ (wd96 hw)) (mvT hZ (wd95 hw)) (by decide) (backOf (W := 0) (own_eqN l Z a0 hw [] b1 T104.heap n0 O116) hZ (wd97 hw) (wd3 hw) (by decide) (by decide)) q131a q131c (g := (mkF m 186 #[.val (.int p0), .val (.int p1), .val (.int p2), .val (.int p3), .val (.int p4), .val (.int ia), .val (.int ib), .val (.ref b1), .val (.ref b104), .val (.int kd), .unset] [.null, (.ref b1)])) rfl (by rw [hml]; rfl) (Steps.refl _) (argsL := [.null]) (rest := []) (lenOf pd__Ljava_lang_Object__Z_1835 rfl) rfl (by show 2 * 0 + _ ≤ _; exact Nat.le_of_eq rfl) (hb hby at_186) (fun _ _ => ⟨rfl, rfl, (by decide : 29 + 0 ≤ _), (by decide : 324 + 0 ≤ _)⟩)
        dsimp only [Pt.U, Pt.locs, Pt.cells, Pt.slots] at X131 l131 y131 z131 st131 hQ131
        subst Lp131 kp131 np131
        obtain ⟨rfl, rfl, e131⟩ := hQ131
        try rw [List.append_nil] at X131
        refine own_tr (S' := T131.setTop (mkF m 189 #[.val (.int p0), .val (.int p1), .val (.int p2), .val (.int p3), .val (.int p4), .val (.int ia), .val (.int ib), .val (.ref b1), .val (.ref b104), .val (.int kd), .unset] [(.int (0 : Int32))])) st131 ?_
        refine own_via (S' := T131.setTop (mkF m 192 #[.val (.int p0), .val (.int p1), .val (.int p2), .val (.int p3), .val (.int p4), .val (.int ia), .val (.int ib), .val (.ref b1), .val (.ref b104), .val (.int kd), .unset] [])) (fun t k => XS.ifNo X131.here hx rfl (hb hby at_189) rfl ((if0 _ _).trans (teq (by decide : (0 : Int32) = (0 : Int32))).2) k) ?_
        refine own_via (S' := T131.setTop (mkF m 193 #[.val (.int p0), .val (.int p1), .val (.int p2), .val (.int p3), .val (.int p4), .val (.int ia), .val (.int ib), .val (.ref b1), .val (.ref b104), .val (.int kd), .unset] [(.int (1 : Int32))])) (fun t k => XS.iconst X131.here hx rfl (hb hby at_192) k) ?_
        refine own_via (S' := T131.setTop (mkF m 197 #[.val (.int p0), .val (.int p1), .val (.int p2), .val (.int p3), .val (.int p4), .val (.int ia), .val (.int ib), .val (.ref b1), .val (.ref b104), .val (.int kd), .unset] [(.int (1 : Int32))])) (fun t k => XS.goto X131.here hx rfl (pc0 := 193) (pc' := 197) rfl (hb hby at_193) (by decide) (by decide) k) ?_
        have RTR115 : CHr Z own_EL s.vm h0 T131.vm T104.heap := R115.trans (CHv.at X131 hZ hEL R115.1)
        have RXR115 : CHr Z own_EL s.vm s.heap T131.vm T131.heap := by rw [hh, e131]; exact RTR115
        refine own_retW (Q := Q_own_law Z p0 p1 p2 p3 p4 zc wP wD wN wI wO wM wG wY h0 n0) (C := room_1.cells) (N := room_1.slots) X131 hSn104 (by rw [e131]; omega) (v := some (.int (1 : Int32))) (fun h => by rw [Bd.returns] at h; cases h) Bd.notSynchronized ?_ RXR115 (by decide) (by decide) (fun fs hr => retN X131 hx (t := .boolean) Bd.returns (by simp) (hb hby at_197) hr)
        show Q_own_law Z p0 p1 p2 p3 p4 zc wP wD wN wI wO wM wG wY h0 n0 _ T131.vm T131.heap _
        rw [e131]
        exact ⟨rfl, N104⟩
      · -- no
        refine own_via (S' := T104.setTop (mkF m 198 #[.val (.int p0), .val (.int p1), .val (.int p2), .val (.int p3), .val (.int p4), .val (.int ia), .val (.int ib), .val (.ref b1), .val (.ref b104), .val (.int kd), .unset] [])) (fun t k => XS.icmpYes X104.here hx rfl (pc0 := 180) (pc' := 198) rfl (hb hby at_180) rfl (feq hc180_130).2 (by decide) (by decide) k) ?_
        refine own_via (S' := T104.setTop (mkF m 200 #[.val (.int p0), .val (.int p1), .val (.int p2), .val (.int p3), .val (.int p4), .val (.int ia), .val (.int ib), .val (.ref b1), .val (.ref b104), .val (.int kd), .unset] [(.int kd)])) (fun t k => XS.iload X104.here hx rfl (hb hby at_198) rfl k) ?_
        refine own_via (S' := T104.setTop (mkF m 201 #[.val (.int p0), .val (.int p1), .val (.int p2), .val (.int p3), .val (.int p4), .val (.int ia), .val (.int ib), .val (.ref b1), .val (.ref b104), .val (.int kd), .unset] [(.int (2 : Int32)), (.int kd)])) (fun t k => XS.iconst X104.here hx rfl (hb hby at_200) k) ?_
        by_cases hc201_133 : kd = (2 : Int32)
        · -- yes
          refine own_via (S' := T104.setTop (mkF m 204 #[.val (.int p0), .val (.int p1), .val (.int p2), .val (.int p3), .val (.int p4), .val (.int ia), .val (.int ib), .val (.ref b1), .val (.ref b104), .val (.int kd), .unset] [])) (fun t k => XS.icmpNo X104.here hx rfl (hb hby at_201) rfl (teq hc201_133).2 k) ?_
          refine own_via (S' := T104.setTop (mkF m 205 #[.val (.int p0), .val (.int p1), .val (.int p2), .val (.int p3), .val (.int p4), .val (.int ia), .val (.int ib), .val (.ref b1), .val (.ref b104), .val (.int kd), .unset] [(.int (1 : Int32))])) (fun t k => XS.iconst X104.here hx rfl (hb hby at_204) k) ?_
          obtain ⟨T134, h134, k134, X134, e134, E134, A134, st134⟩ := newP (aty := .char) X104 hx hZ (wd72 hw) rfl (g := (mkF m 205 #[.val (.int p0), .val (.int p1), .val (.int p2), .val (.int p3), .val (.int p4), .val (.int ia), .val (.int ib), .val (.ref b1), .val (.ref b104), .val (.int kd), .unset] [(.int (1 : Int32))])) rfl (hb hby at_205) rfl (by decide : ¬ ((1 : Int32) < (0 : Int32))) (cap := 1) (by decide) (by decide) (by decide) (by decide)
          obtain ⟨b134, g134⟩ : ∃ z, z = T104.heap.size := ⟨_, rfl⟩
          rw [← g134] at A134 st134
          have lt_b134 : h134.size > b134 := A134.lt
          have sz135 : T104.heap.size ≤ h134.size := E134.1
          have O136 : Old Z n0 h134 := O116.ext E134
          have R137 : CHr Z own_EL s.vm h0 T104.vm h134 := R115.trans (CHr.ext E134 R115.1)
          have V134 : Arv Z h134 b134 k134 .char (1 : Int32) [(.int (0 : Int32))] (.int (0 : Int32)) := (Arv.new A134 (by decide)).pad (pad_rep [] (.int (0 : Int32)) 1)
          refine own_via (S' := T134.setTop (mkF m 207 #[.val (.int p0), .val (.int p1), .val (.int p2), .val (.int p3), .val (.int p4), .val (.int ia), .val (.int ib), .val (.ref b1), .val (.ref b104), .val (.int kd), .unset] [(.ref b134)])) st134 ?_
          refine own_via (S' := T134.setTop (mkF m 209 #[.val (.int p0), .val (.int p1), .val (.int p2), .val (.int p3), .val (.int p4), .val (.int ia), .val (.int ib), .val (.ref b1), .val (.ref b104), .val (.int kd), .val (.ref b134)] [])) (fun t k => XS.astore X134.here hx rfl (hb hby at_207) rfl rfl (l' := #[.val (.int p0), .val (.int p1), .val (.int p2), .val (.int p3), .val (.int p4), .val (.int ia), .val (.int ib), .val (.ref b1), .val (.ref b104), .val (.int kd), .val (.ref b134)]) rfl k) ?_
          refine own_via (S' := T134.setTop (mkF m 211 #[.val (.int p0), .val (.int p1), .val (.int p2), .val (.int p3), .val (.int p4), .val (.int ia), .val (.int ib), .val (.ref b1), .val (.ref b104), .val (.int kd), .val (.ref b134)] [(.ref b134)])) (fun t k => XS.aload X134.here hx rfl (hb hby at_209) rfl rfl k) ?_
          refine own_via (S' := T134.setTop (mkF m 212 #[.val (.int p0), .val (.int p1), .val (.int p2), .val (.int p3), .val (.int p4), .val (.int ia), .val (.int ib), .val (.ref b1), .val (.ref b104), .val (.int kd), .val (.ref b134)] [(.int (0 : Int32)), (.ref b134)])) (fun t k => XS.iconst X134.here hx rfl (hb hby at_211) k) ?_
          refine own_via (S' := T134.setTop (mkF m 213 #[.val (.int p0), .val (.int p1), .val (.int p2), .val (.int p3), .val (.int p4), .val (.int ia), .val (.int ib), .val (.ref b1), .val (.ref b104), .val (.int kd), .val (.ref b134)] [(.int p2), (.int (0 : Int32)), (.ref b134)])) (fun t k => XS.iloadN X134.here hx rfl (hb hby at_212) rfl k) ?_
          refine own_via (S' := T134.setTop (mkF m 216 #[.val (.int p0), .val (.int p1), .val (.int p2), .val (.int p3), .val (.int p4), .val (.int ia), .val (.int ib), .val (.ref b1), .val (.ref b104), .val (.int kd), .val (.ref b134)] [(.int (255 : Int32)), (.int p2), (.int (0 : Int32)), (.ref b134)])) (fun t k => XS.sipush X134.here hx rfl (hb hby at_213) k) ?_
          refine own_via (S' := T134.setTop (mkF m 217 #[.val (.int p0), .val (.int p1), .val (.int p2), .val (.int p3), .val (.int p4), .val (.int ia), .val (.int ib), .val (.ref b1), .val (.ref b104), .val (.int kd), .val (.ref b134)] [(.int (p2 &&& (255 : Int32))), (.int (0 : Int32)), (.ref b134)])) (fun t k => XS.iand X134.here hx rfl (hb hby at_216) rfl k) ?_
          refine own_via (S' := T134.setTop (mkF m 218 #[.val (.int p0), .val (.int p1), .val (.int p2), .val (.int p3), .val (.int p4), .val (.int ia), .val (.int ib), .val (.ref b1), .val (.ref b104), .val (.int kd), .val (.ref b134)] [(.int ((p2 &&& (255 : Int32)).toUInt32.toUInt16.toUInt32.toInt32)), (.int (0 : Int32)), (.ref b134)])) (fun t k => XS.i2c X134.here hx rfl (hb hby at_217) rfl k) ?_
          obtain ⟨ch3, hn_ch3⟩ : ∃ z : Int32, z = ((p2 &&& (255 : Int32)).toUInt32.toUInt16.toUInt32.toInt32) := ⟨_, rfl⟩
          rw [← hn_ch3]
          have rng_ch3 : ¬ ch3 < 0 ∧ ¬ (255 : Int32) < ch3 := by rw [hn_ch3]; exact own_and255 _
          obtain ⟨cl138, Ar138, q138, S138, M138, H138, U138⟩ := id V134
          obtain ⟨T138, h138, X138, e138, W138, st138⟩ := stC X134 hx hZ e134 Ar138 (j := (0 : Int32)) (inb_of S138 ⟨by decide, by decide⟩) (g := (mkF m 218 #[.val (.int p0), .val (.int p1), .val (.int p2), .val (.int p3), .val (.int p4), .val (.int ia), .val (.int ib), .val (.ref b1), .val (.ref b104), .val (.int kd), .val (.ref b134)] [(.int ch3), (.int (0 : Int32)), (.ref b134)])) rfl rfl (hb hby at_218)
          have sf138 : Safe Z own_EL T104.vm h134 b134 := (Safe.arv hZ.alike V134 (by decide))
          have sz139 : h134.size ≤ h138.size := Nat.le_of_eq W138.size.symm
          have R140 : CHr Z own_EL s.vm h0 T104.vm h138 := R137.trans (CHr.wr W138 sf138 R137.1)
          have O141 : Old Z n0 h138 := O136.wr W138 (by omega : n0 ≤ b134)
          have N138 := Fr.snoc X138 N104 (by omega : n0 ≤ b134)
          rw [own_narc rng_ch3] at W138
          have V138 : Arv Z h138 b134 k134 .char (1 : Int32) [(.int ch3)] (.int (0 : Int32)) := Arv.set Ar138 q138 S138 M138 H138 U138 (own_fitc rng_ch3) W138 0 rfl (Nat.le_of_ble_eq_true rfl)
          refine own_via (S' := T138.setTop (mkF m 219 #[.val (.int p0), .val (.int p1), .val (.int p2), .val (.int p3), .val (.int p4), .val (.int ia), .val (.int ib), .val (.ref b1), .val (.ref b104), .val (.int kd), .val (.ref b134)] [])) st138 ?_
          refine own_via (S' := T138.setTop (mkF m 221 #[.val (.int p0), .val (.int p1), .val (.int p2), .val (.int p3), .val (.int p4), .val (.int ia), .val (.int ib), .val (.ref b1), .val (.ref b104), .val (.int kd), .val (.ref b134)] [(.ref b1)])) (fun t k => XS.aload X138.here hx rfl (hb hby at_219) rfl rfl k) ?_
          obtain ⟨T142, h142, X142, e142, E142, A142, D142, -, st142⟩ := newO X138 hx hZ hown (wd73 hw) (wd22 hw) (wd21 hw) e138 (g := (mkF m 221 #[.val (.int p0), .val (.int p1), .val (.int p2), .val (.int p3), .val (.int p4), .val (.int ia), .val (.int ib), .val (.ref b1), .val (.ref b104), .val (.int kd), .val (.ref b134)] [(.ref b1)])) rfl (hb hby at_221) (by decide) (by decide)
          obtain ⟨b142, g142⟩ : ∃ z, z = h138.size := ⟨_, rfl⟩
          rw [← g142] at A142 D142 st142
          have lt_b142 : h142.size > b142 := A142.lt
          have sz143 : h138.size ≤ h142.size := E142.1
          have O144 : Old Z n0 h142 := O141.ext E142
          have R145 : CHr Z own_EL s.vm h0 T104.vm h142 := R140.trans (CHr.ext E142 R140.1)
          have SF_b142 : Safe Z own_EL T104.vm h142 b142 := Safe.ext E142 R140.1 (Safe.new (Nat.le_of_eq g142.symm))
          have F142_value : Fld Z h142 b142 "java/lang/String" "value" "[B" .null := D142 (Or.inr (wd24 hw)) (ty := (.array .byte)) (by decide)
          have F142_coder : Fld Z h142 b142 "java/lang/String" "coder" "B" (.int (0 : Int32)) := D142 (Or.inr (wd25 hw)) (ty := .byte) (by decide)
          refine own_via (S' := T142.setTop (mkF m 224 #[.val (.int p0), .val (.int p1), .val (.int p2), .val (.int p3), .val (.int p4), .val (.int ia), .val (.int ib), .val (.ref b1), .val (.ref b104), .val (.int kd), .val (.ref b134)] [(.ref b142), (.ref b1)])) st142 ?_
          refine own_via (S' := T142.setTop (mkF m 225 #[.val (.int p0), .val (.int p1), .val (.int p2), .val (.int p3), .val (.int p4), .val (.int ia), .val (.int ib), .val (.ref b1), .val (.ref b104), .val (.int kd), .val (.ref b134)] [(.ref b142), (.ref b142), (.ref b1)])) (fun t k => XS.dup X142.here hx rfl (hb hby at_224) rfl rfl k) ?_
          refine own_via (S' := T142.setTop (mkF m 227 #[.val (.int p0), .val (.int p1), .val (.int p2), .val (.int p3), .val (.int p4), .val (.int ia), .val (.int ib), .val (.ref b1), .val (.ref b104), .val (.int kd), .val (.ref b134)] [(.ref b134), (.ref b142), (.ref b142), (.ref b1)])) (fun t k => XS.aload X142.here hx rfl (hb hby at_225) rfl rfl k) ?_
          have cx147 : Arv Z h142 b134 k134 .char (1 : Int32) [(.int ch3)] (.int (0 : Int32)) := (V138.ext E142)
          have cx148 : Sta Z h142 "java/lang/String" "COMPACT_STRINGS" "Z" (.int zc) := zf_S_java_lang_String_COMPACT_STRINGS.ext O144.2
          have hws146 := own_mw hw
          have hp146 : ∀ c ∈ ([ch3] : List Int32), ¬ c < 0 ∧ ¬ (255 : Int32) < c := by
            intro c hc
            simp only [List.mem_cons, List.not_mem_nil, or_false] at hc
            rcases hc with rfl
            · exact rng_ch3
          obtain ⟨_, _, ⟨T146, Lp146, kp146, np146⟩, -, X146, ⟨Lc146, hQ146, l146, y146, z146⟩, st146⟩ := X142.specialBack hx (y := mt11) rfl hown (mvT hZ (wd74 hw)) (mvT hZ (wd75 hw)) (mvT hZ (wd76 hw)) (by decide) (StrChars.Road.backV (W := 2) hZ hws146 (kI := 4) (wd22 hw) (cs := ([ch3] : List Int32)) (bs := (([ch3] : List Int32)).map (fun c => c.toInt8.toInt32)) (n := 1) (by omega : n0 ≤ b142) (by omega : n0 ≤ h142.size) A142 F142_value F142_coder cx147 cx148 hzc rfl rfl (by decide) (by decide) hp146 rfl (by decide) (by decide)) (g := (mkF m 227 #[.val (.int p0), .val (.int p1), .val (.int p2), .val (.int p3), .val (.int p4), .val (.int ia), .val (.int ib), .val (.ref b1), .val (.ref b104), .val (.int kd), .val (.ref b134)] [(.ref b134), (.ref b142), (.ref b142), (.ref b1)])) rfl (by rw [hml]; rfl) (Steps.refl _) (a := b142) (argsL := [(.ref b134)]) (rest := [(.ref b142), (.ref b1)]) (lenOf pd___C_V_325 rfl) rfl (by show 2 * 0 + _ ≤ _; exact Nat.le_of_eq rfl) (hb hby at_227) (fun _ _ => ⟨rfl, e142, (by decide : 31 + 1 ≤ _), (by decide : 329 + 1 ≤ _)⟩)
          dsimp only [Pt.U, Pt.locs, Pt.cells, Pt.slots] at X146 l146 y146 z146 st146 hQ146
          subst Lp146 kp146 np146
          obtain ⟨rfl, N146q, K146q, f146_0, f146_1, t146, kb146, tg146, tg146', tn146, f146_2, f146_3⟩ := hQ146
          have N146 := Fr.app N138 N146q
          have sf146 : ∀ x ∈ ([b142] : List Addr), Safe Z own_EL T104.vm h142 x := (sfS SF_b142 sf0)
          have sz149 : h142.size ≤ T146.heap.size := K146q.1
          have R150 : CHr Z own_EL s.vm h0 T104.vm T146.heap := R145.trans (CHr.keep K146q sf146 R145.1)
          have O151 : Old Z n0 T146.heap := O144.keep K146q (allS (by omega : n0 ≤ b142) all0)
          have lt_t146 : T146.heap.size > t146 := f146_3.lt
          refine own_tr (S' := T146.setTop (mkF m 230 #[.val (.int p0), .val (.int p1), .val (.int p2), .val (.int p3), .val (.int p4), .val (.int ia), .val (.int ib), .val (.ref b1), .val (.ref b104), .val (.int kd), .val (.ref b134)] [(.ref b142), (.ref b1)])) st146 ?_
          have cx153 : Exa Z T146.heap b1 "com/example/object_access_rules/objectaccessrules/Result" := (((Exa.wr W138 (((((((cx19.keep K18q).ext E30).keep K40q).keep K47q).keep K99q).keep K104q).ext E134)).ext E142).keep K146q)
          obtain ⟨cq152, kq152, q152a, q152b, q152c⟩ := isOf hZ rfl cx153
          obtain ⟨_, _, ⟨T152, Lp152, kp152, np152⟩, -, X152, ⟨Lc152, hQ152, l152, y152, z152⟩, st152⟩ := X146.virtualBack hx (y := mt13) (z := mt13) hown (mvT hZ (wd93 hw)) (mvT hZ (wd94 hw)) (notFace_of_selects (args := #[]) (mvT hZ (wd96 hw))) (mvT hZ (wd96 hw)) (mvT hZ (wd95 hw)) (by decide) (backOf (W := 0) (own_eqS l Z a0 hw [] b1 b142 T146.heap n0 O151 f146_0) hZ (wd97 hw) (wd3 hw) (by decide) (by decide)) q152a q152c (g := (mkF m 230 #[.val (.int p0), .val (.int p1), .val (.int p2), .val (.int p3), .val (.int p4), .val (.int ia), .val (.int ib), .val (.ref b1), .val (.ref b104), .val (.int kd), .val (.ref b134)] [(.ref b142), (.ref b1)])) rfl (by rw [hml]; rfl) (Steps.refl _) (argsL := [(.ref b142)]) (rest := []) (lenOf pd__Ljava_lang_Object__Z_1835 rfl) rfl (by show 2 * 0 + _ ≤ _; exact Nat.le_of_eq rfl) (hb hby at_230) (fun _ _ => ⟨rfl, rfl, (by decide : 32 + 0 ≤ _), (by decide : 330 + 0 ≤ _)⟩)
          dsimp only [Pt.U, Pt.locs, Pt.cells, Pt.slots] at X152 l152 y152 z152 st152 hQ152
          subst Lp152 kp152 np152
          obtain ⟨rfl, rfl, e152⟩ := hQ152
          try rw [List.append_nil] at X152
          refine own_tr (S' := T152.setTop (mkF m 233 #[.val (.int p0), .val (.int p1), .val (.int p2), .val (.int p3), .val (.int p4), .val (.int ia), .val (.int ib), .val (.ref b1), .val (.ref b104), .val (.int kd), .val (.ref b134)] [(.int (0 : Int32))])) st152 ?_
          refine own_via (S' := T152.setTop (mkF m 236 #[.val (.int p0), .val (.int p1), .val (.int p2), .val (.int p3), .val (.int p4), .val (.int ia), .val (.int ib), .val (.ref b1), .val (.ref b104), .val (.int kd), .val (.ref b134)] [])) (fun t k => XS.ifNo X152.here hx rfl (hb hby at_233) rfl ((if0 _ _).trans (teq (by decide : (0 : Int32) = (0 : Int32))).2) k) ?_
          refine own_via (S' := T152.setTop (mkF m 237 #[.val (.int p0), .val (.int p1), .val (.int p2), .val (.int p3), .val (.int p4), .val (.int ia), .val (.int ib), .val (.ref b1), .val (.ref b104), .val (.int kd), .val (.ref b134)] [(.int (1 : Int32))])) (fun t k => XS.iconst X152.here hx rfl (hb hby at_236) k) ?_
          refine own_via (S' := T152.setTop (mkF m 241 #[.val (.int p0), .val (.int p1), .val (.int p2), .val (.int p3), .val (.int p4), .val (.int ia), .val (.int ib), .val (.ref b1), .val (.ref b104), .val (.int kd), .val (.ref b134)] [(.int (1 : Int32))])) (fun t k => XS.goto X152.here hx rfl (pc0 := 237) (pc' := 241) rfl (hb hby at_237) (by decide) (by decide) k) ?_
          have RTR150 : CHr Z own_EL s.vm h0 T152.vm T146.heap := R150.trans (CHv.at X152 hZ hEL R150.1)
          have RXR150 : CHr Z own_EL s.vm s.heap T152.vm T152.heap := by rw [hh, e152]; exact RTR150
          refine own_retW (Q := Q_own_law Z p0 p1 p2 p3 p4 zc wP wD wN wI wO wM wG wY h0 n0) (C := room_1.cells) (N := room_1.slots) X152 hSn104 (by rw [e152]; omega) (v := some (.int (1 : Int32))) (fun h => by rw [Bd.returns] at h; cases h) Bd.notSynchronized ?_ RXR150 (by decide) (by decide) (fun fs hr => retN X152 hx (t := .boolean) Bd.returns (by simp) (hb hby at_241) hr)
          show Q_own_law Z p0 p1 p2 p3 p4 zc wP wD wN wI wO wM wG wY h0 n0 _ T152.vm T152.heap _
          rw [e152]
          exact ⟨rfl, N146⟩
        · -- no
          refine own_via (S' := T104.setTop (mkF m 242 #[.val (.int p0), .val (.int p1), .val (.int p2), .val (.int p3), .val (.int p4), .val (.int ia), .val (.int ib), .val (.ref b1), .val (.ref b104), .val (.int kd), .unset] [])) (fun t k => XS.icmpYes X104.here hx rfl (pc0 := 201) (pc' := 242) rfl (hb hby at_201) rfl (feq hc201_133).2 (by decide) (by decide) k) ?_
          refine own_via (S' := T104.setTop (mkF m 244 #[.val (.int p0), .val (.int p1), .val (.int p2), .val (.int p3), .val (.int p4), .val (.int ia), .val (.int ib), .val (.ref b1), .val (.ref b104), .val (.int kd), .unset] [(.ref b1)])) (fun t k => XS.aload X104.here hx rfl (hb hby at_242) rfl rfl k) ?_
          refine own_via (S' := T104.setTop (mkF m 246 #[.val (.int p0), .val (.int p1), .val (.int p2), .val (.int p3), .val (.int p4), .val (.int ia), .val (.int ib), .val (.ref b1), .val (.ref b104), .val (.int kd), .unset] [(.ref b1), (.ref b1)])) (fun t k => XS.aload X104.here hx rfl (hb hby at_244) rfl rfl k) ?_
          have ne_b1_b30 : b1 ≠ b30 := by omega
          have cx155 : Fld Z T104.heap b1 "com/example/object_access_rules/objectaccessrules/Result" "decision" "Lcom/example/object_access_rules/objectaccessrules/Decision;" (.ref z5) := (((((f18_0.ext E30).keep K40q nin0).keep K47q (ninS ne_b1_b30 nin0)).keep K99q nin0).keep K104q nin0)
          have cx156 : Fld Z T104.heap b1 "com/example/object_access_rules/objectaccessrules/Result" "status" "Lcom/example/object_access_rules/objectaccessrules/StatusCode;" (.ref z7) := (((((f18_1.ext E30).keep K40q nin0).keep K47q (ninS ne_b1_b30 nin0)).keep K99q nin0).keep K104q nin0)
          have cx157 : Exa Z T104.heap b1 "com/example/object_access_rules/objectaccessrules/Result" := ((((((cx19.keep K18q).ext E30).keep K40q).keep K47q).keep K99q).keep K104q)
          obtain ⟨cq154, kq154, q154a, q154b, q154c⟩ := isOf hZ rfl cx157
          obtain ⟨_, _, ⟨T154, Lp154, kp154, np154⟩, -, X154, ⟨Lc154, hQ154, l154, y154, z154⟩, st154⟩ := X104.virtualBack hx (y := mt13) (z := mt13) hown (mvT hZ (wd93 hw)) (mvT hZ (wd94 hw)) (notFace_of_selects (args := #[]) (mvT hZ (wd96 hw))) (mvT hZ (wd96 hw)) (mvT hZ (wd95 hw)) (by decide) (backOf (W := 0) (own_eqR l Z a0 hw [] b1 b1 z5 z7 z5 z7 T104.heap n0 O116 cx155 cx156 cx155 cx156 cx157) hZ (wd97 hw) (wd3 hw) (by decide) (by decide)) q154a q154c (g := (mkF m 246 #[.val (.int p0), .val (.int p1), .val (.int p2), .val (.int p3), .val (.int p4), .val (.int ia), .val (.int ib), .val (.ref b1), .val (.ref b104), .val (.int kd), .unset] [(.ref b1), (.ref b1)])) rfl (by rw [hml]; rfl) (Steps.refl _) (argsL := [(.ref b1)]) (rest := []) (lenOf pd__Ljava_lang_Object__Z_1835 rfl) rfl (by show 2 * 0 + _ ≤ _; exact Nat.le_of_eq rfl) (hb hby at_246) (fun _ _ => ⟨rfl, rfl, (by decide : 29 + 0 ≤ _), (by decide : 324 + 0 ≤ _)⟩)
          dsimp only [Pt.U, Pt.locs, Pt.cells, Pt.slots] at X154 l154 y154 z154 st154 hQ154
          subst Lp154 kp154 np154
          obtain ⟨z154, rfl, rfl, e154, hz154_0⟩ := hQ154
          try rw [List.append_nil] at X154
          refine own_tr (S' := T154.setTop (mkF m 249 #[.val (.int p0), .val (.int p1), .val (.int p2), .val (.int p3), .val (.int p4), .val (.int ia), .val (.int ib), .val (.ref b1), .val (.ref b104), .val (.int kd), .unset] [(.int z154)])) st154 ?_
          obtain rfl : z154 = (1 : Int32) := hz154_0.trans ((if_pos rfl).trans (if_pos rfl))
          have RTR115 : CHr Z own_EL s.vm h0 T154.vm T104.heap := R115.trans (CHv.at X154 hZ hEL R115.1)
          have RXR115 : CHr Z own_EL s.vm s.heap T154.vm T154.heap := by rw [hh, e154]; exact RTR115
          refine own_retW (Q := Q_own_law Z p0 p1 p2 p3 p4 zc wP wD wN wI wO wM wG wY h0 n0) (C := room_1.cells) (N := room_1.slots) X154 hSn104 (by rw [e154]; omega) (v := some (.int (1 : Int32))) (fun h => by rw [Bd.returns] at h; cases h) Bd.notSynchronized ?_ RXR115 (by decide) (by decide) (fun fs hr => retN X154 hx (t := .boolean) Bd.returns (by simp) (hb hby at_249) hr)
          show Q_own_law Z p0 p1 p2 p3 p4 zc wP wD wN wI wO wM wG wY h0 n0 _ T154.vm T154.heap _
          rw [e154]
          exact ⟨rfl, N104⟩
set_option maxRecDepth 65536 in
set_option maxHeartbeats 40000000 in
theorem comes_1 {Post : Tables → Env → Array Value → State → Outcome → State → Prop} (hpost : ∀ tb e args s v u, (limb_1_1.after args s (.returned v) u = true ∧ limb_1_2.after args s (.returned v) u = true ∧ True) → ReturnedEndW s (.returned v) u (Jvm.fieldLocs frame_1_writes args s ++ Jvm.arrayLocs frame_1_arrays args s ++ Jvm.staticLocs frame_1_statics s) 48 4288 → Post tb e args s (.returned v) u) :
    ArmFor flags0 classFile x code maxLocals ret World_1 tables_1 room_1 Calls_1 rest_1 Pre_1 Post := by
  intro l hfl _ _ p e ha hc hk s m args below hf hA hF happ hP
  obtain ⟨hcalls, hrest, hpre⟩ := hP
  obtain ⟨-, -, -, hnamed, -, -, -, hat⟩ := (Spec.applies_iff hf).mp happ
  obtain ⟨hg, hn⟩ := and_e (Cond.before_iff.mp (show (Jvm.Cond.and given_1 narrow_1).before args s = true from hpre))
  obtain ⟨hcount, hg⟩ := and_e hg
  obtain ⟨hg0, hg⟩ := and_e hg
  obtain ⟨hg1, hg⟩ := and_e hg
  obtain ⟨hg2, hg⟩ := and_e hg
  obtain ⟨hg3, hg⟩ := and_e hg
  have hg4 := hg
  obtain ⟨w0, w1, w2, w3, w4, rfl⟩ : ∃ w0 w1 w2 w3 w4 : Value, args = #[w0, w1, w2, w3, w4] := by
    have hs : args.size = 5 := by simpa [Cond.value, given_1] using hcount
    obtain ⟨L⟩ := args
    match L, hs with
    | [w0, w1, w2, w3, w4], _ => exact ⟨w0, w1, w2, w3, w4, rfl⟩
  have hw := fun d (hd : d ∈ tables_1) => atoms_spec (ws := Jvm.Cond.code x code maxLocals ret :: tables_1) hat d (List.mem_cons_of_mem _ hd)
  have hfit : Fit s := fun {y c} hc i hi => by
    obtain ⟨ha, rfl⟩ := Array.getElem?_eq_some_iff.mp hc
    have q := List.all_eq_true.mp ((Array.all_eq_true_iff_forall_mem.mp hF) _ (Array.getElem_mem ha)) i (List.mem_range.mpr hi)
    simpa [Array.getElem?_eq_getElem hi] using q
  obtain ⟨hsets, hown0⟩ := atoms_of _ (rest_1_c_eq ▸ (show rest_1_c.before _ s = true from hrest))
  have hr0 := Cond.before_iff.mp hown0
  obtain ⟨i0, ei0⟩ := is_v hg0
  obtain rfl : w0 = (.int i0) := Option.some.inj ei0
  obtain ⟨i1, ei1⟩ := is_v hg1
  obtain rfl : w1 = (.int i1) := Option.some.inj ei1
  obtain ⟨i2, ei2⟩ := is_v hg2
  obtain rfl : w2 = (.int i2) := Option.some.inj ei2
  obtain ⟨i3, ei3⟩ := is_v hg3
  obtain rfl : w3 = (.int i3) := Option.some.inj ei3
  obtain ⟨i4, ei4⟩ := is_v hg4
  obtain rfl : w4 = (.int i4) := Option.some.inj ei4
  obtain ⟨n0, hn⟩ := and_e hn
  obtain ⟨n1, hn⟩ := and_e hn
  obtain ⟨n2, hn⟩ := and_e hn
  obtain ⟨n3, hn⟩ := and_e hn
  obtain ⟨n4, hn⟩ := and_e hn
  obtain ⟨n5, hn⟩ := and_e hn
  obtain ⟨n6, hn⟩ := and_e hn
  obtain ⟨n7, hn⟩ := and_e hn
  obtain ⟨n8, hn⟩ := and_e hn
  obtain ⟨n9, hn⟩ := and_e hn
  obtain ⟨n10, hn⟩ := and_e hn
  obtain ⟨n11, hn⟩ := and_e hn
  obtain ⟨n12, hn⟩ := and_e hn
  obtain ⟨n13, hn⟩ := and_e hn
  obtain ⟨n14, hn⟩ := and_e hn
  have n15 := hn
  obtain ⟨wP, e_wP⟩ := exa_v n0
  have E_wP := Exa.start e_wP n0
  have S_wP := Sta.start e_wP (Or.inr ⟨(wd9 hw), (wd10 hw)⟩)
  obtain ⟨wO, e_wO⟩ := exa_v n1
  have E_wO := Exa.start e_wO n1
  have S_wO := Sta.start e_wO (Or.inr ⟨(wd15 hw), (wd16 hw)⟩)
  obtain ⟨wI, e_wI⟩ := exa_v n2
  have E_wI := Exa.start e_wI n2
  have S_wI := Sta.start e_wI (Or.inr ⟨(wd9 hw), (wd57 hw)⟩)
  obtain ⟨wM, e_wM⟩ := exa_v n5
  have E_wM := Exa.start e_wM n5
  have S_wM := Sta.start e_wM (Or.inr ⟨(wd15 hw), (wd71 hw)⟩)
  obtain ⟨wG, e_wG⟩ := exa_v n8
  have E_wG := Exa.start e_wG n8
  have S_wG := Sta.start e_wG (Or.inr ⟨(wd15 hw), (wd101 hw)⟩)
  obtain ⟨wN, e_wN⟩ := exa_v n10
  have E_wN := Exa.start e_wN n10
  have S_wN := Sta.start e_wN (Or.inr ⟨(wd9 hw), (wd122 hw)⟩)
  obtain ⟨wD, e_wD⟩ := exa_v n12
  have E_wD := Exa.start e_wD n12
  have S_wD := Sta.start e_wD (Or.inr ⟨(wd9 hw), (wd125 hw)⟩)
  obtain ⟨wY, e_wY⟩ := exa_v n14
  have E_wY := Exa.start e_wY n14
  have S_wY := Sta.start e_wY (Or.inr ⟨(wd15 hw), (wd129 hw)⟩)
  have o_wP := own_ord e_wP n3
  have o_wI := own_ord e_wI n4
  have o_wM := own_ord e_wM n6
  have o_wO := own_ord e_wO n7
  have o_wG := own_ord e_wG n9
  have o_wN := own_ord e_wN n11
  have o_wD := own_ord e_wD n13
  have o_wY := own_ord e_wY n15
  have ne_wP_wI : ¬ (wP = wI) := fun q => by rw [q, o_wI] at o_wP; simp at o_wP
  have ne_wP_wN : ¬ (wP = wN) := fun q => by rw [q, o_wN] at o_wP; simp at o_wP
  have ne_wP_wD : ¬ (wP = wD) := fun q => by rw [q, o_wD] at o_wP; simp at o_wP
  have ne_wI_wN : ¬ (wI = wN) := fun q => by rw [q, o_wN] at o_wI; simp at o_wI
  have ne_wI_wD : ¬ (wI = wD) := fun q => by rw [q, o_wD] at o_wI; simp at o_wI
  have ne_wM_wO : ¬ (wM = wO) := fun q => by rw [q, o_wO] at o_wM; simp at o_wM
  have ne_wM_wG : ¬ (wM = wG) := fun q => by rw [q, o_wG] at o_wM; simp at o_wM
  have ne_wM_wY : ¬ (wM = wY) := fun q => by rw [q, o_wY] at o_wM; simp at o_wM
  have ne_wO_wG : ¬ (wO = wG) := fun q => by rw [q, o_wG] at o_wO; simp at o_wO
  have ne_wO_wY : ¬ (wO = wY) := fun q => by rw [q, o_wY] at o_wO; simp at o_wO
  have ne_wG_wY : ¬ (wG = wY) := fun q => by rw [q, o_wY] at o_wG; simp at o_wG
  have ne_wN_wD : ¬ (wN = wD) := fun q => by rw [q, o_wD] at o_wN; simp at o_wN
  obtain ⟨zc, ez⟩ := is_v (Cond.before_iff.mp (hsets _ (List.mem_of_getElem? (i := 1) rfl)))
  have S_zc : Sta s s.heap "java/lang/String" "COMPACT_STRINGS" "Z" (.int zc) := Sta.start ez (Or.inl (hsets _ (List.mem_of_getElem? (i := 0) rfl)))
  have hzc : ¬ (zc = (0 : Int32)) := gotF (Cond.eq_ints ez (Term.int_eval (0))) (not_v (Cond.before_iff.mp (hsets _ (List.mem_of_getElem? (i := 2) rfl))))
  have hEL := own_EW hw
  have hCH : CHv s own_EL s.vm s.heap := CHv.start hEL hcalls.1 (hsets _ (List.mem_of_getElem? (i := 2) rfl)) (wd23 hw) (wd22 hw)
  obtain ⟨n, o, h1, h2, h3, _, L, rfl, ⟨rfl, N⟩, -, hq⟩ := own_law l s _ hw tables_1 i0 i1 i2 i3 i4 zc wP wD wN wI wO wM wG wY s.heap s.heap.size (Old.start s) S_zc S_wP S_wD S_wN S_wI E_wP E_wD E_wN E_wI S_wO S_wM S_wG S_wY E_wO E_wM E_wG E_wY hzc ⟨ne_wP_wD, ne_wP_wN, ne_wP_wI, (fun q => ne_wN_wD q.symm), (fun q => ne_wI_wD q.symm), (fun q => ne_wI_wN q.symm)⟩ ⟨(fun q => ne_wM_wO q.symm), ne_wO_wG, ne_wO_wY, ne_wM_wG, ne_wM_wY, ne_wG_wY⟩ p e ha hc hk s m _ below hf ((Spec.applies_iff_loose hf).mp happ).1 ⟨rfl, State.Warmed39.refl s, rfl, hCH, fun _ q => nomatch q⟩ trivial
  refine ⟨n, _, h1, h2, h3, hpost _ _ _ _ _ _ ⟨Cond.after_iff.mpr rfl, Cond.after_iff.mpr (eq_i res_at (Term.int_eval (1)) rfl), trivial⟩ ⟨hq.1, hq.2.1, hq.2.2.1, (hq.2.2.2.sift fun y hy => Or.inr (N y hy)).mono (by decide) (by decide)⟩⟩
theorem main_1_1 : Claimed_1_1 := comes_1 fun _ _ _ _ _ _ h hF => ⟨h.1, hF⟩
theorem main_1_2 : Claimed_1_2 := comes_1 fun _ _ _ _ _ _ h hF => ⟨h.2.1, hF⟩
end Jvm.Pilot.@@N@@
namespace Jvm.Pilot.@@N@@
open Jvm Jvm.ClassFile Sem Op Lib Jvm.Free Jvm.Stand Jvm.Pilot.@@N@@.Jvm.D
/-! MADE BY PROGRAM (witnessworld.py) out of the Statement's table words and the real class files: 24 classes; the members and pool entries that the words name. The judged class is class 1, her method 4. -/
namespace start1
open Jvm.ClassFile
def u (s : String) : CpInfo := .utf8 (stringToUtf16 s)
/-- a pool by its gaps: so many unusable entries, then the entry; so many at the end -/
def gap : Nat → List CpInfo → List CpInfo
  | 0, r => r
  | n + 1, r => .unusable :: gap n r
def poolList (es : List (Nat × CpInfo)) (last : Nat) : List CpInfo := es.foldr (fun e r => gap e.1 (e.2 :: r)) (gap last [])
def pool (es : List (Nat × CpInfo)) (last : Nat) : Array CpInfo := ⟨poolList es last⟩
def fileOf (pool : Array CpInfo) (this : Nat) (attrs : Array Attribute := #[]) (ms : Array MethodInfo := #[]) (fl : Nat := 33) (sup : Nat := 0) (ifs : Array Nat := #[]) (fds : Array FieldInfo := #[]) : ClassFile where
  minorVersion := 0
  majorVersion := 65
  constantPool := pool
  accessFlags := fl
  thisClass := this
  superClass := sup
  interfaces := ifs
  fields := fds
  methods := ms
  attributes := attrs
def plain (name : String) (sup : Option ClassId) : Class where
  name := name
  kind := .ordinary
  loader := none
  accessFlags := 33
  super := sup
  interfaces := #[]
  cf := none
  fields := #[]
  methods := #[]
  instanceTypes := #[]
  staticTypes := #[]
  resolved := #[]
  callSites := []
  init := .initialized
  statics := none
  mirror := none

def pool0 : Array CpInfo := pool [(5, u "<init>"), (0, u "()V"), (1, .class_ 10), (1, u "java/lang/Object")] 113

def k0c0 : Code := { maxStack := 0, maxLocals := 1, code := object_method_1_code, exceptionTable := #[], attributes := #[] }
def k0m0 : Method := { name := "<init>", desc := "()V", sig := { parameters := [], returnType := none }, accessFlags := 1, code := some k0c0 }
/-- java/lang/Object -/
def k0 : Class := { plain "java/lang/Object" none with
  accessFlags := 33
  interfaces := #[]
  cf := some (fileOf pool0 8 #[] #[{ accessFlags := 1, nameIndex := 5, descriptorIndex := 6, attributes := #[] }] 33 0 #[] #[])
  fields := #[]
  methods := #[k0m0]
  instanceTypes := #[]
  staticTypes := #[]
  resolved := Array.replicate 124 none
  statics := none }

def pool1 : Array CpInfo := pool [(2, .class_ 4), (1, u "java/lang/Object"), (0, u "<init>"), (0, u "()V"), (0, .fieldref 8 9), (0, .class_ 10), (0, .nameAndType 11 12), (0, u "com/example/object_access_rules/objectaccessrules/Decision"), (0, u "PERMIT"), (0, u "Lcom/example/object_access_rules/objectaccessrules/Decision;"), (0, .fieldref 8 14), (0, .nameAndType 15 12), (0, u "DENY"), (0, .fieldref 8 17), (0, .nameAndType 18 12), (0, u "NOT_APPLICABLE"), (0, .fieldref 8 20), (0, .nameAndType 21 12), (0, u "INDETERMINATE"), (0, .fieldref 23 24), (0, .class_ 25), (0, .nameAndType 26 27), (0, u "com/example/object_access_rules/objectaccessrules/StatusCode"), (0, u "OK"), (0, u "Lcom/example/object_access_rules/objectaccessrules/StatusCode;"), (0, .fieldref 23 29), (0, .nameAndType 30 27), (0, u "MISSING_ATTRIBUTE"), (0, .fieldref 23 32), (0, .nameAndType 33 27), (0, u "PROCESSING_ERROR"), (0, .fieldref 23 35), (0, .nameAndType 36 27), (0, u "SYNTAX_ERROR"), (0, .string 38), (0, u ""), (0, .class_ 40), (0, u "java/lang/String"), (0, .methodref 39 42), (0, .nameAndType 5 43), (0, u "([C)V"), (0, .integer 2147483647), (0, .class_ 46), (0, u "com/example/object_access_rules/objectaccessrules/Result"), (0, .methodref 48 49), (0, .class_ 50), (0, .nameAndType 51 52), (0, u "com/example/object_access_rules/objectaccessrules/ResultEqualsPinLaw"), (0, u "dec"), (0, u "(I)Lcom/example/object_access_rules/objectaccessrules/Decision;"), (0, .methodref 48 54), (0, .nameAndType 55 56), (0, u "st"), (0, u "(I)Lcom/example/object_access_rules/objectaccessrules/StatusCode;"), (0, .methodref 48 58), (0, .nameAndType 59 60), (0, u "msg"), (0, u "(IIZ)Ljava/lang/String;"), (0, .methodref 45 62), (0, .nameAndType 5 63), (0, u "(Lcom/example/object_access_rules/objectaccessrules/Decision;Lcom/example/object_access_rules/objectaccessrules/StatusCode;Ljava/lang/String;)V"), (0, .methodref 39 65), (0, .nameAndType 66 67), (0, u "valueOf"), (0, u "(C)Ljava/lang/String;"), (0, .methodref 45 69), (0, .nameAndType 70 71), (0, u "through"), (0, u "(Ljava/lang/String;)Lcom/example/object_access_rules/objectaccessrules/Result;"), (0, .methodref 45 73), (0, .nameAndType 74 75), (0, u "equals"), (0, u "(Ljava/lang/Object;)Z"), (3, u "law"), (0, u "(IIIII)Z")] 4

def k1m0 : Method := { name := "<init>", desc := "()V", sig := { parameters := [], returnType := none }, accessFlags := 1, code := none }
def k1c1 : Code := { maxStack := 2, maxLocals := 1, code := method_2_code, exceptionTable := #[], attributes := #[] }
def k1m1 : Method := { name := "dec", desc := "(I)Lcom/example/object_access_rules/objectaccessrules/Decision;", sig := { parameters := [.int], returnType := some (.object "com/example/object_access_rules/objectaccessrules/Decision") }, accessFlags := 10, code := some k1c1 }
def k1c2 : Code := { maxStack := 2, maxLocals := 1, code := method_3_code, exceptionTable := #[], attributes := #[] }
def k1m2 : Method := { name := "st", desc := "(I)Lcom/example/object_access_rules/objectaccessrules/StatusCode;", sig := { parameters := [.int], returnType := some (.object "com/example/object_access_rules/objectaccessrules/StatusCode") }, accessFlags := 10, code := some k1c2 }
def k1c3 : Code := { maxStack := 4, maxLocals := 4, code := method_4_code, exceptionTable := #[], attributes := #[] }
def k1m3 : Method := { name := "msg", desc := "(IIZ)Ljava/lang/String;", sig := { parameters := [.int, .int, .boolean], returnType := some (.object "java/lang/String") }, accessFlags := 10, code := some k1c3 }
def k1c4 : Code := { maxStack := 8, maxLocals := 11, code := code, exceptionTable := #[], attributes := #[] }
def k1m4 : Method := { name := "law", desc := "(IIIII)Z", sig := { parameters := [.int, .int, .int, .int, .int], returnType := some .boolean }, accessFlags := 9, code := some k1c4 }
/-- com/example/object_access_rules/objectaccessrules/ResultEqualsPinLaw -/
def k1 : Class := { plain "com/example/object_access_rules/objectaccessrules/ResultEqualsPinLaw" (some 0) with
  accessFlags := 49
  interfaces := #[]
  cf := some (fileOf pool1 48 #[] #[{ accessFlags := 1, nameIndex := 5, descriptorIndex := 6, attributes := #[] }, { accessFlags := 10, nameIndex := 51, descriptorIndex := 52, attributes := #[] }, { accessFlags := 10, nameIndex := 55, descriptorIndex := 56, attributes := #[] }, { accessFlags := 10, nameIndex := 59, descriptorIndex := 60, attributes := #[] }, { accessFlags := 9, nameIndex := 79, descriptorIndex := 80, attributes := #[] }] 49 2 #[] #[])
  fields := #[]
  methods := #[k1m0, k1m1, k1m2, k1m3, k1m4]
  instanceTypes := #[]
  staticTypes := #[]
  resolved := Array.replicate 85 none
  statics := none }

def pool2 : Array CpInfo := pool [(1, .methodref 2 3), (0, .class_ 4), (0, .nameAndType 5 6), (0, u "com/example/object_access_rules/objectaccessrules/Result"), (0, u "<init>"), (0, u "(Lcom/example/object_access_rules/objectaccessrules/Decision;Lcom/example/object_access_rules/objectaccessrules/StatusCode;Ljava/lang/String;Ljava/lang/String;Lcom/example/object_access_rules/objectaccessrules/Result;)V"), (4, u "(Lcom/example/object_access_rules/objectaccessrules/Decision;Lcom/example/object_access_rules/objectaccessrules/StatusCode;Ljava/lang/String;)V"), (0, .methodref 13 14), (0, .class_ 15), (0, .nameAndType 5 16), (0, u "java/lang/Object"), (0, u "()V"), (0, .string 18), (0, u "decision"), (0, .methodref 20 21), (0, .class_ 22), (0, .nameAndType 23 24), (0, u "java/util/Objects"), (0, u "requireNonNull"), (0, u "(Ljava/lang/Object;Ljava/lang/String;)Ljava/lang/Object;"), (0, .class_ 26), (0, u "com/example/object_access_rules/objectaccessrules/Decision"), (0, .fieldref 2 28), (0, .nameAndType 18 29), (0, u "Lcom/example/object_access_rules/objectaccessrules/Decision;"), (0, .string 31), (0, u "status"), (0, .class_ 33), (0, u "com/example/object_access_rules/objectaccessrules/StatusCode"), (0, .fieldref 2 35), (0, .nameAndType 31 36), (0, u "Lcom/example/object_access_rules/objectaccessrules/StatusCode;"), (0, .string 38), (0, u "message"), (0, .class_ 40), (0, u "java/lang/String"), (0, .fieldref 2 42), (0, .nameAndType 38 43), (0, u "Ljava/lang/String;"), (0, .fieldref 25 45), (0, .nameAndType 46 29), (0, u "INDETERMINATE"), (0, .fieldref 32 48), (0, .nameAndType 49 36), (0, u "OK"), (16, .methodref 39 67), (0, .nameAndType 68 69), (0, u "isEmpty"), (0, u "()Z"), (1, .fieldref 2 72), (0, .nameAndType 73 43), (0, u "step"), (0, .fieldref 2 75), (0, .nameAndType 76 77), (0, u "below"), (0, u "Lcom/example/object_access_rules/objectaccessrules/Result;"), (1, .class_ 81), (1, u "com/example/object_access_rules/objectaccessrules/Result$1"), (13, u "PERMIT"), (2, u "DENY"), (2, u "NOT_APPLICABLE"), (28, u "(Ljava/lang/Object;)Z"), (4, .fieldref 25 136), (0, .nameAndType 101 29), (51, u "through"), (0, u "(Ljava/lang/String;)Lcom/example/object_access_rules/objectaccessrules/Result;"), (2, u "equals")] 24

def k2c0 : Code := { maxStack := 6, maxLocals := 4, code := prog_37_method_1_code, exceptionTable := #[], attributes := #[] }
def k2m0 : Method := { name := "<init>", desc := "(Lcom/example/object_access_rules/objectaccessrules/Decision;Lcom/example/object_access_rules/objectaccessrules/StatusCode;Ljava/lang/String;)V", sig := { parameters := [(.object "com/example/object_access_rules/objectaccessrules/Decision"), (.object "com/example/object_access_rules/objectaccessrules/StatusCode"), (.object "java/lang/String")], returnType := none }, accessFlags := 1, code := some k2c0 }
def k2c1 : Code := { maxStack := 4, maxLocals := 6, code := prog_37_method_3_code, exceptionTable := #[], attributes := #[] }
def k2m1 : Method := { name := "<init>", desc := "(Lcom/example/object_access_rules/objectaccessrules/Decision;Lcom/example/object_access_rules/objectaccessrules/StatusCode;Ljava/lang/String;Ljava/lang/String;Lcom/example/object_access_rules/objectaccessrules/Result;)V", sig := { parameters := [(.object "com/example/object_access_rules/objectaccessrules/Decision"), (.object "com/example/object_access_rules/objectaccessrules/StatusCode"), (.object "java/lang/String"), (.object "java/lang/String"), (.object "com/example/object_access_rules/objectaccessrules/Result")], returnType := none }, accessFlags := 2, code := some k2c1 }
def k2c2 : Code := { maxStack := 7, maxLocals := 2, code := prog_37_method_13_code, exceptionTable := #[], attributes := #[] }
def k2m2 : Method := { name := "through", desc := "(Ljava/lang/String;)Lcom/example/object_access_rules/objectaccessrules/Result;", sig := { parameters := [(.object "java/lang/String")], returnType := some (.object "com/example/object_access_rules/objectaccessrules/Result") }, accessFlags := 0, code := some k2c2 }
def k2c3 : Code := { maxStack := 2, maxLocals := 3, code := prog_37_method_16_code, exceptionTable := #[], attributes := #[] }
def k2m3 : Method := { name := "equals", desc := "(Ljava/lang/Object;)Z", sig := { parameters := [(.object "java/lang/Object")], returnType := some .boolean }, accessFlags := 1, code := some k2c3 }
/-- com/example/object_access_rules/objectaccessrules/Result -/
def k2 : Class := { plain "com/example/object_access_rules/objectaccessrules/Result" (some 0) with
  accessFlags := 33
  interfaces := #[]
  cf := some (fileOf pool2 2 #[.nestMembers #[79]] #[{ accessFlags := 1, nameIndex := 5, descriptorIndex := 11, attributes := #[] }, { accessFlags := 2, nameIndex := 5, descriptorIndex := 6, attributes := #[] }, { accessFlags := 0, nameIndex := 188, descriptorIndex := 189, attributes := #[] }, { accessFlags := 1, nameIndex := 192, descriptorIndex := 130, attributes := #[] }] 33 13 #[] #[{ accessFlags := 26, nameIndex := 95, descriptorIndex := 77, attributes := #[] }, { accessFlags := 26, nameIndex := 98, descriptorIndex := 77, attributes := #[] }, { accessFlags := 26, nameIndex := 101, descriptorIndex := 77, attributes := #[] }, { accessFlags := 18, nameIndex := 18, descriptorIndex := 29, attributes := #[] }, { accessFlags := 18, nameIndex := 31, descriptorIndex := 36, attributes := #[] }, { accessFlags := 18, nameIndex := 38, descriptorIndex := 43, attributes := #[] }, { accessFlags := 18, nameIndex := 73, descriptorIndex := 43, attributes := #[] }, { accessFlags := 18, nameIndex := 76, descriptorIndex := 77, attributes := #[] }])
  fields := #[{ name := "PERMIT", type := (.object "com/example/object_access_rules/objectaccessrules/Result"), accessFlags := 26, slot := 0, constantValue := 0 }, { name := "DENY", type := (.object "com/example/object_access_rules/objectaccessrules/Result"), accessFlags := 26, slot := 1, constantValue := 0 }, { name := "NOT_APPLICABLE", type := (.object "com/example/object_access_rules/objectaccessrules/Result"), accessFlags := 26, slot := 2, constantValue := 0 }, { name := "decision", type := (.object "com/example/object_access_rules/objectaccessrules/Decision"), accessFlags := 18, slot := 0, constantValue := 0 }, { name := "status", type := (.object "com/example/object_access_rules/objectaccessrules/StatusCode"), accessFlags := 18, slot := 1, constantValue := 0 }, { name := "message", type := (.object "java/lang/String"), accessFlags := 18, slot := 2, constantValue := 0 }, { name := "step", type := (.object "java/lang/String"), accessFlags := 18, slot := 3, constantValue := 0 }, { name := "below", type := (.object "com/example/object_access_rules/objectaccessrules/Result"), accessFlags := 18, slot := 4, constantValue := 0 }]
  methods := #[k2m0, k2m1, k2m2, k2m3]
  instanceTypes := #[(.object "com/example/object_access_rules/objectaccessrules/Decision"), (.object "com/example/object_access_rules/objectaccessrules/StatusCode"), (.object "java/lang/String"), (.object "java/lang/String"), (.object "com/example/object_access_rules/objectaccessrules/Result")]
  staticTypes := #[(.object "com/example/object_access_rules/objectaccessrules/Result"), (.object "com/example/object_access_rules/objectaccessrules/Result"), (.object "com/example/object_access_rules/objectaccessrules/Result")]
  resolved := Array.replicate 217 none
  statics := none }

def pool3 : Array CpInfo := pool [(1, .class_ 2), (0, u "java/lang/constant/Constable"), (0, .class_ 4), (0, u "java/lang/Object")] 6

/-- java/lang/constant/Constable -/
def k3 : Class := { plain "java/lang/constant/Constable" (some 0) with
  accessFlags := 1537
  interfaces := #[]
  cf := some (fileOf pool3 1 #[] #[] 1537 3 #[] #[])
  fields := #[]
  methods := #[]
  instanceTypes := #[]
  staticTypes := #[]
  resolved := Array.replicate 11 none
  statics := none }

def pool4 : Array CpInfo := pool [(1, .class_ 2), (0, u "java/lang/Comparable"), (0, .class_ 4), (0, u "java/lang/Object")] 7

/-- java/lang/Comparable -/
def k4 : Class := { plain "java/lang/Comparable" (some 0) with
  accessFlags := 1537
  interfaces := #[]
  cf := some (fileOf pool4 1 #[] #[] 1537 3 #[] #[])
  fields := #[]
  methods := #[]
  instanceTypes := #[]
  staticTypes := #[]
  resolved := Array.replicate 12 none
  statics := none }

def pool5 : Array CpInfo := pool [(1, .class_ 2), (0, u "java/io/Serializable"), (0, .class_ 4), (0, u "java/lang/Object")] 2

/-- java/io/Serializable -/
def k5 : Class := { plain "java/io/Serializable" (some 0) with
  accessFlags := 1537
  interfaces := #[]
  cf := some (fileOf pool5 1 #[] #[] 1537 3 #[] #[])
  fields := #[]
  methods := #[]
  instanceTypes := #[]
  staticTypes := #[]
  resolved := Array.replicate 7 none
  statics := none }

def pool6 : Array CpInfo := pool [(2, .class_ 4), (1, u "java/lang/Enum"), (0, u "name"), (0, u "Ljava/lang/String;"), (2, u "ordinal"), (0, u "I"), (1, .class_ 14), (1, u "java/lang/Object"), (4, u "hash"), (86, .class_ 108), (1, u "java/lang/Enum$EnumDesc"), (2, .class_ 112), (0, u "java/lang/constant/Constable"), (0, .class_ 114), (0, u "java/lang/Comparable"), (0, .class_ 116), (0, u "java/io/Serializable")] 87

/-- java/lang/Enum -/
def k6 : Class := { plain "java/lang/Enum" (some 0) with
  accessFlags := 1057
  interfaces := #[3, 4, 5]
  cf := some (fileOf pool6 2 #[.nestMembers #[106]] #[] 1057 12 #[111, 113, 115] #[{ accessFlags := 18, nameIndex := 5, descriptorIndex := 6, attributes := #[] }, { accessFlags := 18, nameIndex := 9, descriptorIndex := 10, attributes := #[] }, { accessFlags := 2, nameIndex := 19, descriptorIndex := 10, attributes := #[] }])
  fields := #[{ name := "name", type := (.object "java/lang/String"), accessFlags := 18, slot := 0, constantValue := 0 }, { name := "ordinal", type := .int, accessFlags := 18, slot := 1, constantValue := 0 }, { name := "hash", type := .int, accessFlags := 2, slot := 2, constantValue := 0 }]
  methods := #[]
  instanceTypes := #[(.object "java/lang/String"), .int, .int]
  staticTypes := #[]
  resolved := Array.replicate 204 none
  statics := none }

def pool7 : Array CpInfo := pool [(1, .class_ 2), (0, u "com/example/object_access_rules/objectaccessrules/Decision"), (2, u "PERMIT"), (0, u "Lcom/example/object_access_rules/objectaccessrules/Decision;"), (2, u "DENY"), (2, u "NOT_APPLICABLE"), (2, u "INDETERMINATE"), (2, u "$VALUES"), (0, u "[Lcom/example/object_access_rules/objectaccessrules/Decision;"), (6, .class_ 28), (1, u "java/lang/Enum"), (8, u "xacmlName"), (0, u "Ljava/lang/String;")] 32

/-- com/example/object_access_rules/objectaccessrules/Decision -/
def k7 : Class := { plain "com/example/object_access_rules/objectaccessrules/Decision" (some 6) with
  accessFlags := 16433
  interfaces := #[]
  cf := some (fileOf pool7 1 #[] #[] 16433 26 #[] #[{ accessFlags := 16409, nameIndex := 5, descriptorIndex := 6, attributes := #[] }, { accessFlags := 16409, nameIndex := 9, descriptorIndex := 6, attributes := #[] }, { accessFlags := 16409, nameIndex := 12, descriptorIndex := 6, attributes := #[] }, { accessFlags := 16409, nameIndex := 15, descriptorIndex := 6, attributes := #[] }, { accessFlags := 18, nameIndex := 37, descriptorIndex := 38, attributes := #[] }, { accessFlags := 4122, nameIndex := 18, descriptorIndex := 19, attributes := #[] }])
  fields := #[{ name := "PERMIT", type := (.object "com/example/object_access_rules/objectaccessrules/Decision"), accessFlags := 16409, slot := 0, constantValue := 0 }, { name := "DENY", type := (.object "com/example/object_access_rules/objectaccessrules/Decision"), accessFlags := 16409, slot := 1, constantValue := 0 }, { name := "NOT_APPLICABLE", type := (.object "com/example/object_access_rules/objectaccessrules/Decision"), accessFlags := 16409, slot := 2, constantValue := 0 }, { name := "INDETERMINATE", type := (.object "com/example/object_access_rules/objectaccessrules/Decision"), accessFlags := 16409, slot := 3, constantValue := 0 }, { name := "xacmlName", type := (.object "java/lang/String"), accessFlags := 18, slot := 3, constantValue := 0 }, { name := "$VALUES", type := (.array (.object "com/example/object_access_rules/objectaccessrules/Decision")), accessFlags := 4122, slot := 4, constantValue := 0 }]
  methods := #[]
  instanceTypes := #[(.object "java/lang/String"), .int, .int, (.object "java/lang/String")]
  staticTypes := #[(.object "com/example/object_access_rules/objectaccessrules/Decision"), (.object "com/example/object_access_rules/objectaccessrules/Decision"), (.object "com/example/object_access_rules/objectaccessrules/Decision"), (.object "com/example/object_access_rules/objectaccessrules/Decision"), (.array (.object "com/example/object_access_rules/objectaccessrules/Decision"))]
  resolved := Array.replicate 71 none
  statics := some 0 }

def pool8 : Array CpInfo := pool [(1, .class_ 2), (0, u "com/example/object_access_rules/objectaccessrules/StatusCode"), (2, u "OK"), (0, u "Lcom/example/object_access_rules/objectaccessrules/StatusCode;"), (2, u "MISSING_ATTRIBUTE"), (2, u "PROCESSING_ERROR"), (2, u "SYNTAX_ERROR"), (2, u "$VALUES"), (0, u "[Lcom/example/object_access_rules/objectaccessrules/StatusCode;"), (6, .class_ 28), (1, u "java/lang/Enum"), (8, u "id"), (0, u "Ljava/lang/String;")] 32

/-- com/example/object_access_rules/objectaccessrules/StatusCode -/
def k8 : Class := { plain "com/example/object_access_rules/objectaccessrules/StatusCode" (some 6) with
  accessFlags := 16433
  interfaces := #[]
  cf := some (fileOf pool8 1 #[] #[] 16433 26 #[] #[{ accessFlags := 16409, nameIndex := 5, descriptorIndex := 6, attributes := #[] }, { accessFlags := 16409, nameIndex := 9, descriptorIndex := 6, attributes := #[] }, { accessFlags := 16409, nameIndex := 12, descriptorIndex := 6, attributes := #[] }, { accessFlags := 16409, nameIndex := 15, descriptorIndex := 6, attributes := #[] }, { accessFlags := 18, nameIndex := 37, descriptorIndex := 38, attributes := #[] }, { accessFlags := 4122, nameIndex := 18, descriptorIndex := 19, attributes := #[] }])
  fields := #[{ name := "OK", type := (.object "com/example/object_access_rules/objectaccessrules/StatusCode"), accessFlags := 16409, slot := 0, constantValue := 0 }, { name := "MISSING_ATTRIBUTE", type := (.object "com/example/object_access_rules/objectaccessrules/StatusCode"), accessFlags := 16409, slot := 1, constantValue := 0 }, { name := "PROCESSING_ERROR", type := (.object "com/example/object_access_rules/objectaccessrules/StatusCode"), accessFlags := 16409, slot := 2, constantValue := 0 }, { name := "SYNTAX_ERROR", type := (.object "com/example/object_access_rules/objectaccessrules/StatusCode"), accessFlags := 16409, slot := 3, constantValue := 0 }, { name := "id", type := (.object "java/lang/String"), accessFlags := 18, slot := 3, constantValue := 0 }, { name := "$VALUES", type := (.array (.object "com/example/object_access_rules/objectaccessrules/StatusCode")), accessFlags := 4122, slot := 4, constantValue := 0 }]
  methods := #[]
  instanceTypes := #[(.object "java/lang/String"), .int, .int, (.object "java/lang/String")]
  staticTypes := #[(.object "com/example/object_access_rules/objectaccessrules/StatusCode"), (.object "com/example/object_access_rules/objectaccessrules/StatusCode"), (.object "com/example/object_access_rules/objectaccessrules/StatusCode"), (.object "com/example/object_access_rules/objectaccessrules/StatusCode"), (.array (.object "com/example/object_access_rules/objectaccessrules/StatusCode"))]
  resolved := Array.replicate 71 none
  statics := some 1 }

def pool9 : Array CpInfo := pool [(2, .class_ 4), (1, u "java/lang/CharSequence"), (42, .class_ 48), (0, u "java/lang/CharSequence$1CodePointIterator"), (10, .class_ 60), (0, u "java/lang/CharSequence$1CharIterator"), (5, .class_ 67), (0, u "java/lang/Object")] 63

/-- java/lang/CharSequence -/
def k9 : Class := { plain "java/lang/CharSequence" (some 0) with
  accessFlags := 1537
  interfaces := #[]
  cf := some (fileOf pool9 2 #[.nestMembers #[47, 59]] #[] 1537 66 #[] #[])
  fields := #[]
  methods := #[]
  instanceTypes := #[]
  staticTypes := #[]
  resolved := Array.replicate 131 none
  statics := none }

def pool10 : Array CpInfo := pool [(1, .class_ 2), (0, u "java/lang/constant/ConstantDesc"), (0, .class_ 4), (0, u "java/lang/Object")] 32

/-- java/lang/constant/ConstantDesc -/
def k10 : Class := { plain "java/lang/constant/ConstantDesc" (some 0) with
  accessFlags := 1537
  interfaces := #[]
  cf := some (fileOf pool10 1 #[] #[] 1537 3 #[] #[])
  fields := #[]
  methods := #[]
  instanceTypes := #[]
  staticTypes := #[]
  resolved := Array.replicate 37 none
  statics := none }

def pool11 : Array CpInfo := pool [(1, .methodref 2 3), (0, .class_ 4), (0, .nameAndType 5 6), (0, u "java/lang/Object"), (0, u "<init>"), (0, u "()V"), (2, .fieldref 10 11), (0, .class_ 12), (0, .nameAndType 13 14), (0, u "java/lang/String"), (0, u "value"), (0, u "[B"), (0, .fieldref 10 16), (0, .nameAndType 17 18), (0, u "coder"), (0, u "B"), (2, u "hash"), (0, u "I"), (2, u "hashIsZero"), (0, u "Z"), (0, .methodref 10 28), (0, .nameAndType 5 29), (0, u "([CIILjava/lang/Void;)V"), (8, .fieldref 10 39), (0, .nameAndType 40 26), (0, u "COMPACT_STRINGS"), (1, .class_ 44), (1, u "java/lang/StringUTF16"), (0, u "compress"), (1, .methodref 42 48), (0, .nameAndType 49 50), (0, u "coderFromArrayLen"), (0, u "([BI)B"), (2, u "toBytes"), (53, .class_ 109), (1, u "java/lang/StringLatin1"), (32, u "()Z"), (34, .methodref 42 178), (0, .nameAndType 45 179), (0, u "([CII)[B"), (29, .methodref 10 210), (0, .nameAndType 5 211), (0, u "([BB)V"), (157, u "(C)Z"), (205, .class_ 576), (0, u "java/lang/CharSequence"), (22, u "CASE_INSENSITIVE_ORDER"), (0, u "Ljava/util/Comparator;"), (91, u "isEmpty"), (89, u "valueOf"), (0, u "(C)Ljava/lang/String;"), (226, u "([C)V"), (4, .methodref 107 1016), (0, .nameAndType 1017 369), (0, u "canEncode"), (0, .methodref 107 1019), (0, .nameAndType 53 1020), (0, u "(C)[B"), (80, u "serialPersistentFields"), (0, u "[Ljava/io/ObjectStreamField;"), (0, .class_ 1104), (0, u "java/lang/String$CaseInsensitiveComparator"), (1, .class_ 1107), (0, u "java/io/Serializable"), (0, .class_ 1109), (0, u "java/lang/Comparable"), (0, .class_ 1111), (0, u "java/lang/constant/Constable"), (0, .class_ 1113), (0, u "java/lang/constant/ConstantDesc"), (2, u "serialVersionUID"), (0, u "J"), (3, u "REPL"), (0, u "C"), (2, u "LATIN1"), (1, u "UTF16")] 323

def k11m0 : Method := { name := "<init>", desc := "()V", sig := { parameters := [], returnType := none }, accessFlags := 1, code := none }
def k11c1 : Code := { maxStack := 5, maxLocals := 2, code := jdk_42_method_3_code, exceptionTable := #[], attributes := #[] }
def k11m1 : Method := { name := "<init>", desc := "([C)V", sig := { parameters := [(.array .char)], returnType := none }, accessFlags := 1, code := some k11c1 }
def k11c2 : Code := { maxStack := 1, maxLocals := 1, code := jdk_42_method_55_code, exceptionTable := #[], attributes := #[] }
def k11m2 : Method := { name := "isEmpty", desc := "()Z", sig := { parameters := [], returnType := some .boolean }, accessFlags := 1, code := some k11c2 }
def k11c3 : Code := { maxStack := 4, maxLocals := 1, code := jdk_42_method_139_code, exceptionTable := #[], attributes := #[] }
def k11m3 : Method := { name := "valueOf", desc := "(C)Ljava/lang/String;", sig := { parameters := [.char], returnType := some (.object "java/lang/String") }, accessFlags := 9, code := some k11c3 }
def k11c4 : Code := { maxStack := 4, maxLocals := 6, code := jdk_42_method_149_code, exceptionTable := #[], attributes := #[] }
def k11m4 : Method := { name := "<init>", desc := "([CIILjava/lang/Void;)V", sig := { parameters := [(.array .char), .int, .int, (.object "java/lang/Void")], returnType := none }, accessFlags := 2, code := some k11c4 }
def k11c5 : Code := { maxStack := 2, maxLocals := 3, code := jdk_42_method_151_code, exceptionTable := #[], attributes := #[] }
def k11m5 : Method := { name := "<init>", desc := "([BB)V", sig := { parameters := [(.array .byte), .byte], returnType := none }, accessFlags := 0, code := some k11c5 }
/-- java/lang/String -/
def k11 : Class := { plain "java/lang/String" (some 0) with
  accessFlags := 49
  interfaces := #[5, 4, 9, 3, 10]
  cf := some (fileOf pool11 10 #[.nestMembers #[1103]] #[{ accessFlags := 1, nameIndex := 5, descriptorIndex := 6, attributes := #[] }, { accessFlags := 1, nameIndex := 5, descriptorIndex := 1010, attributes := #[] }, { accessFlags := 1, nameIndex := 692, descriptorIndex := 142, attributes := #[] }, { accessFlags := 9, nameIndex := 782, descriptorIndex := 783, attributes := #[] }, { accessFlags := 2, nameIndex := 5, descriptorIndex := 29, attributes := #[] }, { accessFlags := 0, nameIndex := 5, descriptorIndex := 211, attributes := #[] }] 49 2 #[1106, 1108, 575, 1110, 1112] #[{ accessFlags := 18, nameIndex := 13, descriptorIndex := 14, attributes := #[] }, { accessFlags := 18, nameIndex := 17, descriptorIndex := 18, attributes := #[] }, { accessFlags := 2, nameIndex := 21, descriptorIndex := 22, attributes := #[] }, { accessFlags := 2, nameIndex := 25, descriptorIndex := 26, attributes := #[] }, { accessFlags := 26, nameIndex := 1116, descriptorIndex := 1117, attributes := #[] }, { accessFlags := 24, nameIndex := 40, descriptorIndex := 26, attributes := #[] }, { accessFlags := 26, nameIndex := 1101, descriptorIndex := 1102, attributes := #[] }, { accessFlags := 26, nameIndex := 1121, descriptorIndex := 1122, attributes := #[] }, { accessFlags := 25, nameIndex := 599, descriptorIndex := 600, attributes := #[] }, { accessFlags := 24, nameIndex := 1125, descriptorIndex := 18, attributes := #[] }, { accessFlags := 24, nameIndex := 1127, descriptorIndex := 18, attributes := #[] }])
  fields := #[{ name := "value", type := (.array .byte), accessFlags := 18, slot := 0, constantValue := 0 }, { name := "coder", type := .byte, accessFlags := 18, slot := 1, constantValue := 0 }, { name := "hash", type := .int, accessFlags := 2, slot := 2, constantValue := 0 }, { name := "hashIsZero", type := .boolean, accessFlags := 2, slot := 3, constantValue := 0 }, { name := "serialVersionUID", type := .long, accessFlags := 26, slot := 0, constantValue := 0 }, { name := "COMPACT_STRINGS", type := .boolean, accessFlags := 24, slot := 1, constantValue := 0 }, { name := "serialPersistentFields", type := (.array (.object "java/io/ObjectStreamField")), accessFlags := 26, slot := 2, constantValue := 0 }, { name := "REPL", type := .char, accessFlags := 26, slot := 3, constantValue := 0 }, { name := "CASE_INSENSITIVE_ORDER", type := (.object "java/util/Comparator"), accessFlags := 25, slot := 4, constantValue := 0 }, { name := "LATIN1", type := .byte, accessFlags := 24, slot := 5, constantValue := 0 }, { name := "UTF16", type := .byte, accessFlags := 24, slot := 6, constantValue := 0 }]
  methods := #[k11m0, k11m1, k11m2, k11m3, k11m4, k11m5]
  instanceTypes := #[(.array .byte), .byte, .int, .boolean]
  staticTypes := #[.long, .boolean, (.array (.object "java/io/ObjectStreamField")), .char, (.object "java/util/Comparator"), .byte, .byte]
  resolved := Array.replicate 1451 none
  statics := some 2 }

def pool12 : Array CpInfo := pool [(2, .class_ 4), (1, u "java/lang/Object"), (0, u "<init>"), (0, u "()V"), (35, .class_ 44), (1, u "java/util/Objects"), (0, u "requireNonNull"), (48, u "(Ljava/lang/Object;Ljava/lang/String;)Ljava/lang/Object;")] 89

def k12m0 : Method := { name := "<init>", desc := "()V", sig := { parameters := [], returnType := none }, accessFlags := 2, code := none }
def k12c1 : Code := { maxStack := 3, maxLocals := 2, code := jdk_31_method_11_code, exceptionTable := #[], attributes := #[] }
def k12m1 : Method := { name := "requireNonNull", desc := "(Ljava/lang/Object;Ljava/lang/String;)Ljava/lang/Object;", sig := { parameters := [(.object "java/lang/Object"), (.object "java/lang/String")], returnType := some (.object "java/lang/Object") }, accessFlags := 9, code := some k12c1 }
/-- java/util/Objects -/
def k12 : Class := { plain "java/util/Objects" (some 0) with
  accessFlags := 49
  interfaces := #[]
  cf := some (fileOf pool12 42 #[] #[{ accessFlags := 2, nameIndex := 5, descriptorIndex := 6, attributes := #[] }, { accessFlags := 9, nameIndex := 45, descriptorIndex := 94, attributes := #[] }] 49 2 #[] #[])
  fields := #[]
  methods := #[k12m0, k12m1]
  instanceTypes := #[]
  staticTypes := #[]
  resolved := Array.replicate 184 none
  statics := none }

def pool13 : Array CpInfo := pool [(6, .class_ 8), (1, u "java/lang/Object"), (0, u "<init>"), (0, u "()V"), (1, .class_ 14), (1, u "java/lang/StringUTF16"), (31, u "$assertionsDisabled"), (0, u "Z"), (13, u "HI_BYTE_SHIFT"), (0, u "I"), (2, u "LO_BYTE_SHIFT"), (49, .methodref 12 116), (0, .nameAndType 117 118), (0, u "compress"), (0, u "([CI[BII)I"), (3, u "([CII)[B"), (138, u "coderFromArrayLen"), (0, u "([BI)B"), (106, .class_ 371), (1, u "java/lang/StringUTF16$LinesSpliterator"), (58, u "MAX_LENGTH"), (196, .class_ 628), (0, u "java/lang/StringUTF16$CodePointsSpliterator"), (0, .class_ 630), (0, u "java/lang/StringUTF16$CharsSpliterator")] 4

def k13m0 : Method := { name := "<init>", desc := "()V", sig := { parameters := [], returnType := none }, accessFlags := 0, code := none }
def k13c1 : Code := { maxStack := 2, maxLocals := 2, code := jdk_52_method_15_code, exceptionTable := #[], attributes := #[] }
def k13m1 : Method := { name := "coderFromArrayLen", desc := "([BI)B", sig := { parameters := [(.array .byte), .int], returnType := some .byte }, accessFlags := 8, code := some k13c1 }
def k13c2 : Code := { maxStack := 5, maxLocals := 6, code := jdk_52_method_16_code, exceptionTable := #[], attributes := #[] }
def k13m2 : Method := { name := "compress", desc := "([CII)[B", sig := { parameters := [(.array .char), .int, .int], returnType := some (.array .byte) }, accessFlags := 9, code := some k13c2 }
def k13c3 : Code := { maxStack := 3, maxLocals := 7, code := jdk_52_method_21_code, exceptionTable := #[], attributes := #[] }
def k13m3 : Method := { name := "compress", desc := "([CI[BII)I", sig := { parameters := [(.array .char), .int, (.array .byte), .int, .int], returnType := some .int }, accessFlags := 9, code := some k13c3 }
/-- java/lang/StringUTF16 -/
def k13 : Class := { plain "java/lang/StringUTF16" (some 0) with
  accessFlags := 48
  interfaces := #[]
  cf := some (fileOf pool13 12 #[.nestMembers #[627, 629, 369]] #[{ accessFlags := 0, nameIndex := 9, descriptorIndex := 10, attributes := #[] }, { accessFlags := 8, nameIndex := 261, descriptorIndex := 262, attributes := #[] }, { accessFlags := 9, nameIndex := 117, descriptorIndex := 122, attributes := #[] }, { accessFlags := 9, nameIndex := 117, descriptorIndex := 118, attributes := #[] }] 48 6 #[] #[{ accessFlags := 26, nameIndex := 61, descriptorIndex := 62, attributes := #[] }, { accessFlags := 26, nameIndex := 65, descriptorIndex := 62, attributes := #[] }, { accessFlags := 24, nameIndex := 430, descriptorIndex := 62, attributes := #[] }, { accessFlags := 4120, nameIndex := 46, descriptorIndex := 47, attributes := #[] }])
  fields := #[{ name := "HI_BYTE_SHIFT", type := .int, accessFlags := 26, slot := 0, constantValue := 0 }, { name := "LO_BYTE_SHIFT", type := .int, accessFlags := 26, slot := 1, constantValue := 0 }, { name := "MAX_LENGTH", type := .int, accessFlags := 24, slot := 2, constantValue := 0 }, { name := "$assertionsDisabled", type := .boolean, accessFlags := 4120, slot := 3, constantValue := 0 }]
  methods := #[k13m0, k13m1, k13m2, k13m3]
  instanceTypes := #[]
  staticTypes := #[.int, .int, .int, .boolean]
  resolved := Array.replicate 635 none
  statics := none }

def pool14 : Array CpInfo := pool [(4, .class_ 6), (1, u "java/lang/Object"), (0, u "<init>"), (0, u "()V"), (5, .class_ 16), (1, u "java/lang/StringLatin1"), (73, u "canEncode"), (14, u "(C)Z"), (15, u "$assertionsDisabled"), (0, u "Z"), (98, .class_ 223), (1, u "java/lang/StringLatin1$LinesSpliterator"), (156, u "toBytes"), (1, u "(C)[B"), (7, .class_ 391), (0, u "java/lang/StringLatin1$CharsSpliterator")] 3

def k14m0 : Method := { name := "<init>", desc := "()V", sig := { parameters := [], returnType := none }, accessFlags := 0, code := none }
def k14c1 : Code := { maxStack := 2, maxLocals := 1, code := jdk_43_method_3_code, exceptionTable := #[], attributes := #[] }
def k14m1 : Method := { name := "canEncode", desc := "(C)Z", sig := { parameters := [.char], returnType := some .boolean }, accessFlags := 9, code := some k14c1 }
def k14c2 : Code := { maxStack := 4, maxLocals := 1, code := jdk_43_method_46_code, exceptionTable := #[], attributes := #[] }
def k14m2 : Method := { name := "toBytes", desc := "(C)[B", sig := { parameters := [.char], returnType := some (.array .byte) }, accessFlags := 9, code := some k14c2 }
/-- java/lang/StringLatin1 -/
def k14 : Class := { plain "java/lang/StringLatin1" (some 0) with
  accessFlags := 48
  interfaces := #[]
  cf := some (fileOf pool14 14 #[.nestMembers #[390, 221]] #[{ accessFlags := 0, nameIndex := 7, descriptorIndex := 8, attributes := #[] }, { accessFlags := 9, nameIndex := 90, descriptorIndex := 105, attributes := #[] }, { accessFlags := 9, nameIndex := 380, descriptorIndex := 382, attributes := #[] }] 48 4 #[] #[{ accessFlags := 4120, nameIndex := 121, descriptorIndex := 122, attributes := #[] }])
  fields := #[{ name := "$assertionsDisabled", type := .boolean, accessFlags := 4120, slot := 0, constantValue := 0 }]
  methods := #[k14m0, k14m1, k14m2]
  instanceTypes := #[]
  staticTypes := #[.boolean]
  resolved := Array.replicate 395 none
  statics := none }

def pool15 : Array CpInfo := pool [(2, .class_ 4), (1, u "java/lang/Object"), (0, u "<init>"), (0, u "()V"), (17, .class_ 26), (1, u "jdk/internal/util/Preconditions"), (28, .class_ 56), (0, u "jdk/internal/util/Preconditions$4"), (57, .class_ 115), (0, u "jdk/internal/util/Preconditions$1"), (7, u "SIOOBE_FORMATTER"), (0, u "Ljava/util/function/BiFunction;"), (0, .class_ 126), (0, u "jdk/internal/util/Preconditions$2"), (3, u "AIOOBE_FORMATTER"), (0, .class_ 132), (0, u "jdk/internal/util/Preconditions$3"), (3, u "IOOBE_FORMATTER")] 57

def k15m0 : Method := { name := "<init>", desc := "()V", sig := { parameters := [], returnType := none }, accessFlags := 1, code := none }
/-- jdk/internal/util/Preconditions -/
def k15 : Class := { plain "jdk/internal/util/Preconditions" (some 0) with
  accessFlags := 33
  interfaces := #[]
  cf := some (fileOf pool15 24 #[.nestMembers #[55, 131, 125, 114]] #[{ accessFlags := 1, nameIndex := 5, descriptorIndex := 6, attributes := #[] }] 33 2 #[] #[{ accessFlags := 25, nameIndex := 123, descriptorIndex := 124, attributes := #[] }, { accessFlags := 25, nameIndex := 130, descriptorIndex := 124, attributes := #[] }, { accessFlags := 25, nameIndex := 136, descriptorIndex := 124, attributes := #[] }])
  fields := #[{ name := "SIOOBE_FORMATTER", type := (.object "java/util/function/BiFunction"), accessFlags := 25, slot := 0, constantValue := 0 }, { name := "AIOOBE_FORMATTER", type := (.object "java/util/function/BiFunction"), accessFlags := 25, slot := 1, constantValue := 0 }, { name := "IOOBE_FORMATTER", type := (.object "java/util/function/BiFunction"), accessFlags := 25, slot := 2, constantValue := 0 }]
  methods := #[k15m0]
  instanceTypes := #[]
  staticTypes := #[(.object "java/util/function/BiFunction"), (.object "java/util/function/BiFunction"), (.object "java/util/function/BiFunction")]
  resolved := Array.replicate 194 none
  statics := some 3 }

def pool16 : Array CpInfo := pool [(9, u "<init>"), (6, .class_ 18), (1, u "java/lang/Object"), (0, u "()V"), (1, .class_ 23), (1, u "jdk/internal/util/ArraysSupport"), (0, u "LOG2_ARRAY_LONG_INDEX_SCALE"), (0, u "I"), (2, u "U"), (0, u "Ljdk/internal/misc/Unsafe;"), (8, u "BIG_ENDIAN"), (0, u "Z"), (8, u "LOG2_BYTE_BIT_SIZE"), (4, u "LOG2_ARRAY_INT_INDEX_SCALE"), (54, u "JLA"), (0, u "Ljdk/internal/access/JavaLangAccess;"), (11, u "LOG2_ARRAY_BOOLEAN_INDEX_SCALE"), (9, u "LOG2_ARRAY_BYTE_INDEX_SCALE"), (5, u "LOG2_ARRAY_CHAR_INDEX_SCALE"), (5, u "LOG2_ARRAY_SHORT_INDEX_SCALE"), (18, u "LOG2_ARRAY_FLOAT_INDEX_SCALE"), (24, u "LOG2_ARRAY_DOUBLE_INDEX_SCALE"), (89, u "T_BOOLEAN"), (2, u "T_CHAR"), (1, u "T_FLOAT"), (1, u "T_DOUBLE"), (1, u "T_BYTE"), (1, u "T_SHORT"), (1, u "T_INT"), (1, u "T_LONG"), (1, u "SOFT_MAX_ARRAY_LENGTH")] 83

def k16m0 : Method := { name := "<init>", desc := "()V", sig := { parameters := [], returnType := none }, accessFlags := 2, code := none }
/-- jdk/internal/util/ArraysSupport -/
def k16 : Class := { plain "jdk/internal/util/ArraysSupport" (some 0) with
  accessFlags := 33
  interfaces := #[]
  cf := some (fileOf pool16 21 #[] #[{ accessFlags := 2, nameIndex := 9, descriptorIndex := 19, attributes := #[] }] 33 16 #[] #[{ accessFlags := 24, nameIndex := 28, descriptorIndex := 29, attributes := #[] }, { accessFlags := 26, nameIndex := 38, descriptorIndex := 39, attributes := #[] }, { accessFlags := 25, nameIndex := 121, descriptorIndex := 25, attributes := #[] }, { accessFlags := 25, nameIndex := 131, descriptorIndex := 25, attributes := #[] }, { accessFlags := 25, nameIndex := 137, descriptorIndex := 25, attributes := #[] }, { accessFlags := 25, nameIndex := 143, descriptorIndex := 25, attributes := #[] }, { accessFlags := 25, nameIndex := 53, descriptorIndex := 25, attributes := #[] }, { accessFlags := 25, nameIndex := 24, descriptorIndex := 25, attributes := #[] }, { accessFlags := 25, nameIndex := 162, descriptorIndex := 25, attributes := #[] }, { accessFlags := 25, nameIndex := 187, descriptorIndex := 25, attributes := #[] }, { accessFlags := 26, nameIndex := 48, descriptorIndex := 25, attributes := #[] }, { accessFlags := 25, nameIndex := 277, descriptorIndex := 25, attributes := #[] }, { accessFlags := 25, nameIndex := 280, descriptorIndex := 25, attributes := #[] }, { accessFlags := 25, nameIndex := 282, descriptorIndex := 25, attributes := #[] }, { accessFlags := 25, nameIndex := 284, descriptorIndex := 25, attributes := #[] }, { accessFlags := 25, nameIndex := 286, descriptorIndex := 25, attributes := #[] }, { accessFlags := 25, nameIndex := 288, descriptorIndex := 25, attributes := #[] }, { accessFlags := 25, nameIndex := 290, descriptorIndex := 25, attributes := #[] }, { accessFlags := 25, nameIndex := 292, descriptorIndex := 25, attributes := #[] }, { accessFlags := 26, nameIndex := 108, descriptorIndex := 109, attributes := #[] }, { accessFlags := 25, nameIndex := 294, descriptorIndex := 25, attributes := #[] }])
  fields := #[{ name := "U", type := (.object "jdk/internal/misc/Unsafe"), accessFlags := 24, slot := 0, constantValue := 0 }, { name := "BIG_ENDIAN", type := .boolean, accessFlags := 26, slot := 1, constantValue := 0 }, { name := "LOG2_ARRAY_BOOLEAN_INDEX_SCALE", type := .int, accessFlags := 25, slot := 2, constantValue := 0 }, { name := "LOG2_ARRAY_BYTE_INDEX_SCALE", type := .int, accessFlags := 25, slot := 3, constantValue := 0 }, { name := "LOG2_ARRAY_CHAR_INDEX_SCALE", type := .int, accessFlags := 25, slot := 4, constantValue := 0 }, { name := "LOG2_ARRAY_SHORT_INDEX_SCALE", type := .int, accessFlags := 25, slot := 5, constantValue := 0 }, { name := "LOG2_ARRAY_INT_INDEX_SCALE", type := .int, accessFlags := 25, slot := 6, constantValue := 0 }, { name := "LOG2_ARRAY_LONG_INDEX_SCALE", type := .int, accessFlags := 25, slot := 7, constantValue := 0 }, { name := "LOG2_ARRAY_FLOAT_INDEX_SCALE", type := .int, accessFlags := 25, slot := 8, constantValue := 0 }, { name := "LOG2_ARRAY_DOUBLE_INDEX_SCALE", type := .int, accessFlags := 25, slot := 9, constantValue := 0 }, { name := "LOG2_BYTE_BIT_SIZE", type := .int, accessFlags := 26, slot := 10, constantValue := 0 }, { name := "T_BOOLEAN", type := .int, accessFlags := 25, slot := 11, constantValue := 0 }, { name := "T_CHAR", type := .int, accessFlags := 25, slot := 12, constantValue := 0 }, { name := "T_FLOAT", type := .int, accessFlags := 25, slot := 13, constantValue := 0 }, { name := "T_DOUBLE", type := .int, accessFlags := 25, slot := 14, constantValue := 0 }, { name := "T_BYTE", type := .int, accessFlags := 25, slot := 15, constantValue := 0 }, { name := "T_SHORT", type := .int, accessFlags := 25, slot := 16, constantValue := 0 }, { name := "T_INT", type := .int, accessFlags := 25, slot := 17, constantValue := 0 }, { name := "T_LONG", type := .int, accessFlags := 25, slot := 18, constantValue := 0 }, { name := "JLA", type := (.object "jdk/internal/access/JavaLangAccess"), accessFlags := 26, slot := 19, constantValue := 0 }, { name := "SOFT_MAX_ARRAY_LENGTH", type := .int, accessFlags := 25, slot := 20, constantValue := 0 }]
  methods := #[k16m0]
  instanceTypes := #[]
  staticTypes := #[(.object "jdk/internal/misc/Unsafe"), .boolean, .int, .int, .int, .int, .int, .int, .int, .int, .int, .int, .int, .int, .int, .int, .int, .int, .int, (.object "jdk/internal/access/JavaLangAccess"), .int]
  resolved := Array.replicate 378 none
  statics := none }

def pool17 : Array CpInfo := pool [(1, u "java/lang/Cloneable"), (0, .class_ 1), (0, u "java/lang/Object"), (0, .class_ 3)] 3

/-- java/lang/Cloneable -/
def k17 : Class := { plain "java/lang/Cloneable" (some 0) with
  accessFlags := 1537
  interfaces := #[]
  cf := some (fileOf pool17 2 #[] #[] 1537 4 #[] #[])
  fields := #[]
  methods := #[]
  instanceTypes := #[]
  staticTypes := #[]
  resolved := Array.replicate 8 none
  statics := none }

/-- the primitive byte -/
def k18 : Class := { plain "byte" none with kind := .primitive 'B', accessFlags := 0x411 }
/-- [B -/
def k19 : Class := { plain "[B" (some 0) with kind := .array 18 .byte, interfaces := #[17, 5], accessFlags := 1041 }

/-- the primitive char -/
def k20 : Class := { plain "char" none with kind := .primitive 'C', accessFlags := 0x411 }
/-- [C -/
def k21 : Class := { plain "[C" (some 0) with kind := .array 20 .char, interfaces := #[17, 5], accessFlags := 1041 }

/-- the primitive int -/
def k22 : Class := { plain "int" none with kind := .primitive 'I', accessFlags := 0x411 }
/-- [I -/
def k23 : Class := { plain "[I" (some 0) with kind := .array 22 .int, interfaces := #[17, 5], accessFlags := 1041 }

def heap : Heap := #[{ cls := 7, slots := #[.ref 4, .ref 10, .ref 9, .ref 6, .null], vm := .statics 7 },
  { cls := 8, slots := #[.ref 5, .ref 7, .ref 8, .ref 11, .null], vm := .statics 8 },
  { cls := 11, slots := #[.long 0, .int 1, .null, .int 0, .null, .int 0, .int 0], vm := .statics 11 },
  { cls := 15, slots := #[.null, .null, .null], vm := .statics 15 },
  { cls := 7, slots := #[.null, .int 0, .int 0, .null], vm := .none },
  { cls := 8, slots := #[.null, .int 0, .int 0, .null], vm := .none },
  { cls := 7, slots := #[.null, .int 3, .int 0, .null], vm := .none },
  { cls := 8, slots := #[.null, .int 1, .int 0, .null], vm := .none },
  { cls := 8, slots := #[.null, .int 2, .int 0, .null], vm := .none },
  { cls := 7, slots := #[.null, .int 2, .int 0, .null], vm := .none },
  { cls := 7, slots := #[.null, .int 1, .int 0, .null], vm := .none },
  { cls := 8, slots := #[.null, .int 3, .int 0, .null], vm := .none }]
def classes : Array Class := #[k0, k1, k2, k3, k4, k5, k6, k7, k8, k9, k10, k11, k12, k13, k14, k15, k16, k17, k18, k19, k20, k21, k22, k23]
def interned : List (Array UInt16 × Addr) := []
def slotsUsed : Nat := 52
def theMethod : MethodId := ⟨1, 4⟩
def args0 : Array Value := #[.int 2, .int 3, .int 4, .int 5, .int 6]
def aboutOver (below : List Frame) : State where
  vm := { classes := classes, interned := interned.toArray }
  heap := heap
  slotsUsed := slotsUsed
  threads := #[{ frames := .invoking theMethod args0 :: below }]
def below0 : List Frame := [.native { method := ⟨0, 0⟩, args := #[] }]
def about1 : State := aboutOver below0
def p0 : Program := .bare "" "" ""
def e0 : Env := launch0.env 0 0 0
theorem w_frames : about1.frames = Frame.invoking theMethod args0 :: below0 := rfl
set_option maxRecDepth 65536 in
theorem w_args : argsFit about1.vm theMethod args0 = true := by decide +kernel
set_option maxRecDepth 65536 in
theorem w_heap : heapFits about1 = true := by decide +kernel
set_option maxRecDepth 65536 in
theorem w_runnable : about1.curStatus? = some .runnable := by decide +kernel
set_option maxRecDepth 65536 in
theorem w_alone : about1.alone = true := by decide +kernel
set_option maxRecDepth 65536 in
theorem w_named : about1.methodNamed? x = some theMethod := by decide +kernel
set_option maxRecDepth 65536 in
theorem w_hears : about1.hears theMethod below0 = true := by decide +kernel
set_option maxRecDepth 65536 in
theorem w_ripe : about1.ripe theMethod args0 below0 = true := by decide +kernel
theorem w_running : about1.status = .running := rfl
set_option maxRecDepth 65536 in
theorem w_room : about1.hasRoom e0.platform room_1 = true :=
  launch0.hasRoom_least _ room_1 (by decide +kernel) (by decide +kernel) (by decide +kernel) (by decide +kernel) (by decide +kernel) (by decide +kernel)
theorem allAtoms_all (ts : List Jvm.Cond) (a : Array Jvm.Value) (st : Jvm.State) : (allAtoms ts).before a st = ts.all (fun c => c.before a st) := by
  induction ts with
  | nil => rfl
  | cons c t ih =>
    show (Jvm.Cond.and c (allAtoms t)).before a st = _
    rw [Jvm.Cond.before_and, ih, List.all_cons]
def words1 : List Jvm.Cond := Jvm.Cond.code x code maxLocals ret :: tables_1
/-- a 'code' word, met by the world's own term for the bytes: nothing is compared byte by byte -/
theorem code_word {y : MethodName} {bytes : ByteArray} {mx : Nat} {rt : Option FieldType} {a : Array Value} {s : State} {m : MethodId} {meth : Method} {c : Code} (h1 : s.methodNamed? y = some m) (h2 : s.vm.method? m = some meth) (h3 : meth.code = some c) (h4 : c.code = bytes)
    (h5 : (c.maxLocals == mx && c.exceptionTable.isEmpty && decide (c.maxStack ≤ mostOperands) && decide (meth.sig.returnType = rt) && !meth.locks && decide (parseMethodDescriptor y.desc = some meth.sig)) = true) : (Jvm.Cond.code y bytes mx rt).before a s = true := by
  simp only [Bool.and_eq_true, beq_iff_eq, Bool.not_eq_true', decide_eq_true_eq] at h5
  obtain ⟨⟨⟨⟨⟨g1, g2⟩, g3⟩, g4⟩, g5⟩, g6⟩ := h5
  simp [Cond.before, Cond.holds, Cond.value, h1, h2, h3, h4, g1, g2, g3, g4, g5, g6]
def isCode : Jvm.Cond → Bool
  | .code _ _ _ _ => true
  | _ => false
theorem all_split {L : List Jvm.Cond} {P : Jvm.Cond → Bool} (h1 : L.all (fun c => isCode c || P c) = true) (h2 : ∀ c ∈ L.filter isCode, P c = true) : L.all P = true := by
  refine List.all_eq_true.mpr fun c hc => ?_
  have h := List.all_eq_true.mp h1 c hc
  rcases Bool.eq_false_or_eq_true (isCode c) with hi | hi
  · exact h2 c (List.mem_filter.mpr ⟨hc, hi⟩)
  · simpa [hi] using h
set_option maxRecDepth 65536 in
theorem w_c0 : (Jvm.Cond.code x code maxLocals ret).before args0 about1 = true := code_word (m := ⟨1, 4⟩) (meth := k1m4) (c := k1c4) (by decide +kernel) rfl rfl rfl (by decide +kernel)
set_option maxRecDepth 65536 in
theorem w_c1 : (Jvm.Cond.code ({ cls := "com/example/object_access_rules/objectaccessrules/ResultEqualsPinLaw", name := "dec", desc := "(I)Lcom/example/object_access_rules/objectaccessrules/Decision;" } : Jvm.MethodName) method_2_code (1 : Nat) (Option.some (Jvm.ClassFile.FieldType.object "com/example/object_access_rules/objectaccessrules/Decision"))).before args0 about1 = true := code_word (m := ⟨1, 1⟩) (meth := k1m1) (c := k1c1) (by decide +kernel) rfl rfl rfl (by decide +kernel)
set_option maxRecDepth 65536 in
theorem w_c2 : (Jvm.Cond.code ({ cls := "com/example/object_access_rules/objectaccessrules/ResultEqualsPinLaw", name := "st", desc := "(I)Lcom/example/object_access_rules/objectaccessrules/StatusCode;" } : Jvm.MethodName) method_3_code (1 : Nat) (Option.some (Jvm.ClassFile.FieldType.object "com/example/object_access_rules/objectaccessrules/StatusCode"))).before args0 about1 = true := code_word (m := ⟨1, 2⟩) (meth := k1m2) (c := k1c2) (by decide +kernel) rfl rfl rfl (by decide +kernel)
set_option maxRecDepth 65536 in
theorem w_c3 : (Jvm.Cond.code ({ cls := "com/example/object_access_rules/objectaccessrules/ResultEqualsPinLaw", name := "msg", desc := "(IIZ)Ljava/lang/String;" } : Jvm.MethodName) method_4_code (4 : Nat) (Option.some (Jvm.ClassFile.FieldType.object "java/lang/String"))).before args0 about1 = true := code_word (m := ⟨1, 3⟩) (meth := k1m3) (c := k1c3) (by decide +kernel) rfl rfl rfl (by decide +kernel)
set_option maxRecDepth 65536 in
theorem w_c4 : (Jvm.Cond.code ({ cls := "com/example/object_access_rules/objectaccessrules/Result", name := "<init>", desc := "(Lcom/example/object_access_rules/objectaccessrules/Decision;Lcom/example/object_access_rules/objectaccessrules/StatusCode;Ljava/lang/String;)V" } : Jvm.MethodName) prog_37_method_1_code (4 : Nat) (Option.none : Option Jvm.ClassFile.FieldType)).before args0 about1 = true := code_word (m := ⟨2, 0⟩) (meth := k2m0) (c := k2c0) (by decide +kernel) rfl rfl rfl (by decide +kernel)
set_option maxRecDepth 65536 in
theorem w_c5 : (Jvm.Cond.code ({ cls := "com/example/object_access_rules/objectaccessrules/Result", name := "<init>", desc := "(Lcom/example/object_access_rules/objectaccessrules/Decision;Lcom/example/object_access_rules/objectaccessrules/StatusCode;Ljava/lang/String;Ljava/lang/String;Lcom/example/object_access_rules/objectaccessrules/Result;)V" } : Jvm.MethodName) prog_37_method_3_code (6 : Nat) (Option.none : Option Jvm.ClassFile.FieldType)).before args0 about1 = true := code_word (m := ⟨2, 1⟩) (meth := k2m1) (c := k2c1) (by decide +kernel) rfl rfl rfl (by decide +kernel)
set_option maxRecDepth 65536 in
theorem w_c6 : (Jvm.Cond.code ({ cls := "java/lang/Object", name := "<init>", desc := "()V" } : Jvm.MethodName) object_method_1_code (1 : Nat) (Option.none : Option Jvm.ClassFile.FieldType)).before args0 about1 = true := code_word (m := ⟨0, 0⟩) (meth := k0m0) (c := k0c0) (by decide +kernel) rfl rfl rfl (by decide +kernel)
set_option maxRecDepth 65536 in
theorem w_c7 : (Jvm.Cond.code ({ cls := "java/util/Objects", name := "requireNonNull", desc := "(Ljava/lang/Object;Ljava/lang/String;)Ljava/lang/Object;" } : Jvm.MethodName) jdk_31_method_11_code (2 : Nat) (Option.some (Jvm.ClassFile.FieldType.object "java/lang/Object"))).before args0 about1 = true := code_word (m := ⟨12, 1⟩) (meth := k12m1) (c := k12c1) (by decide +kernel) rfl rfl rfl (by decide +kernel)
set_option maxRecDepth 65536 in
theorem w_c8 : (Jvm.Cond.code ({ cls := "java/lang/String", name := "isEmpty", desc := "()Z" } : Jvm.MethodName) jdk_42_method_55_code (1 : Nat) (Option.some Jvm.ClassFile.FieldType.boolean)).before args0 about1 = true := code_word (m := ⟨11, 2⟩) (meth := k11m2) (c := k11c2) (by decide +kernel) rfl rfl rfl (by decide +kernel)
set_option maxRecDepth 65536 in
theorem w_c9 : (Jvm.Cond.code ({ cls := "java/lang/String", name := "<init>", desc := "([C)V" } : Jvm.MethodName) jdk_42_method_3_code (2 : Nat) (Option.none : Option Jvm.ClassFile.FieldType)).before args0 about1 = true := code_word (m := ⟨11, 1⟩) (meth := k11m1) (c := k11c1) (by decide +kernel) rfl rfl rfl (by decide +kernel)
set_option maxRecDepth 65536 in
theorem w_c10 : (Jvm.Cond.code ({ cls := "java/lang/String", name := "<init>", desc := "([CIILjava/lang/Void;)V" } : Jvm.MethodName) jdk_42_method_149_code (6 : Nat) (Option.none : Option Jvm.ClassFile.FieldType)).before args0 about1 = true := code_word (m := ⟨11, 4⟩) (meth := k11m4) (c := k11c4) (by decide +kernel) rfl rfl rfl (by decide +kernel)
set_option maxRecDepth 65536 in
theorem w_c11 : (Jvm.Cond.code ({ cls := "java/lang/StringUTF16", name := "compress", desc := "([CII)[B" } : Jvm.MethodName) jdk_52_method_16_code (6 : Nat) (Option.some (Jvm.ClassFile.FieldType.array Jvm.ClassFile.FieldType.byte))).before args0 about1 = true := code_word (m := ⟨13, 2⟩) (meth := k13m2) (c := k13c2) (by decide +kernel) rfl rfl rfl (by decide +kernel)
set_option maxRecDepth 65536 in
theorem w_c12 : (Jvm.Cond.code ({ cls := "java/lang/StringUTF16", name := "compress", desc := "([CI[BII)I" } : Jvm.MethodName) jdk_52_method_21_code (7 : Nat) (Option.some Jvm.ClassFile.FieldType.int)).before args0 about1 = true := code_word (m := ⟨13, 3⟩) (meth := k13m3) (c := k13c3) (by decide +kernel) rfl rfl rfl (by decide +kernel)
set_option maxRecDepth 65536 in
theorem w_c13 : (Jvm.Cond.code ({ cls := "java/lang/StringUTF16", name := "coderFromArrayLen", desc := "([BI)B" } : Jvm.MethodName) jdk_52_method_15_code (2 : Nat) (Option.some Jvm.ClassFile.FieldType.byte)).before args0 about1 = true := code_word (m := ⟨13, 1⟩) (meth := k13m1) (c := k13c1) (by decide +kernel) rfl rfl rfl (by decide +kernel)
set_option maxRecDepth 65536 in
theorem w_c14 : (Jvm.Cond.code ({ cls := "com/example/object_access_rules/objectaccessrules/Result", name := "equals", desc := "(Ljava/lang/Object;)Z" } : Jvm.MethodName) prog_37_method_16_code (3 : Nat) (Option.some Jvm.ClassFile.FieldType.boolean)).before args0 about1 = true := code_word (m := ⟨2, 3⟩) (meth := k2m3) (c := k2c3) (by decide +kernel) rfl rfl rfl (by decide +kernel)
set_option maxRecDepth 65536 in
theorem w_c15 : (Jvm.Cond.code ({ cls := "java/lang/String", name := "valueOf", desc := "(C)Ljava/lang/String;" } : Jvm.MethodName) jdk_42_method_139_code (1 : Nat) (Option.some (Jvm.ClassFile.FieldType.object "java/lang/String"))).before args0 about1 = true := code_word (m := ⟨11, 3⟩) (meth := k11m3) (c := k11c3) (by decide +kernel) rfl rfl rfl (by decide +kernel)
set_option maxRecDepth 65536 in
theorem w_c16 : (Jvm.Cond.code ({ cls := "java/lang/StringLatin1", name := "canEncode", desc := "(C)Z" } : Jvm.MethodName) jdk_43_method_3_code (1 : Nat) (Option.some Jvm.ClassFile.FieldType.boolean)).before args0 about1 = true := code_word (m := ⟨14, 1⟩) (meth := k14m1) (c := k14c1) (by decide +kernel) rfl rfl rfl (by decide +kernel)
set_option maxRecDepth 65536 in
theorem w_c17 : (Jvm.Cond.code ({ cls := "java/lang/StringLatin1", name := "toBytes", desc := "(C)[B" } : Jvm.MethodName) jdk_43_method_46_code (1 : Nat) (Option.some (Jvm.ClassFile.FieldType.array Jvm.ClassFile.FieldType.byte))).before args0 about1 = true := code_word (m := ⟨14, 2⟩) (meth := k14m2) (c := k14c2) (by decide +kernel) rfl rfl rfl (by decide +kernel)
set_option maxRecDepth 65536 in
theorem w_c18 : (Jvm.Cond.code ({ cls := "java/lang/String", name := "<init>", desc := "([BB)V" } : Jvm.MethodName) jdk_42_method_151_code (3 : Nat) (Option.none : Option Jvm.ClassFile.FieldType)).before args0 about1 = true := code_word (m := ⟨11, 5⟩) (meth := k11m5) (c := k11c5) (by decide +kernel) rfl rfl rfl (by decide +kernel)
set_option maxRecDepth 65536 in
theorem w_c19 : (Jvm.Cond.code ({ cls := "com/example/object_access_rules/objectaccessrules/Result", name := "through", desc := "(Ljava/lang/String;)Lcom/example/object_access_rules/objectaccessrules/Result;" } : Jvm.MethodName) prog_37_method_13_code (2 : Nat) (Option.some (Jvm.ClassFile.FieldType.object "com/example/object_access_rules/objectaccessrules/Result"))).before args0 about1 = true := code_word (m := ⟨2, 2⟩) (meth := k2m2) (c := k2c2) (by decide +kernel) rfl rfl rfl (by decide +kernel)
def codes1 : List Jvm.Cond := [Jvm.Cond.code x code maxLocals ret, Jvm.Cond.code ({ cls := "com/example/object_access_rules/objectaccessrules/ResultEqualsPinLaw", name := "dec", desc := "(I)Lcom/example/object_access_rules/objectaccessrules/Decision;" } : Jvm.MethodName) method_2_code (1 : Nat) (Option.some (Jvm.ClassFile.FieldType.object "com/example/object_access_rules/objectaccessrules/Decision")), Jvm.Cond.code ({ cls := "com/example/object_access_rules/objectaccessrules/ResultEqualsPinLaw", name := "st", desc := "(I)Lcom/example/object_access_rules/objectaccessrules/StatusCode;" } : Jvm.MethodName) method_3_code (1 : Nat) (Option.some (Jvm.ClassFile.FieldType.object "com/example/object_access_rules/objectaccessrules/StatusCode")), Jvm.Cond.code ({ cls := "com/example/object_access_rules/objectaccessrules/ResultEqualsPinLaw", name := "msg", desc := "(IIZ)Ljava/lang/String;" } : Jvm.MethodName) method_4_code (4 : Nat) (Option.some (Jvm.ClassFile.FieldType.object "java/lang/String")), Jvm.Cond.code ({ cls := "com/example/object_access_rules/objectaccessrules/Result", name := "<init>", desc := "(Lcom/example/object_access_rules/objectaccessrules/Decision;Lcom/example/object_access_rules/objectaccessrules/StatusCode;Ljava/lang/String;)V" } : Jvm.MethodName) prog_37_method_1_code (4 : Nat) (Option.none : Option Jvm.ClassFile.FieldType), Jvm.Cond.code ({ cls := "com/example/object_access_rules/objectaccessrules/Result", name := "<init>", desc := "(Lcom/example/object_access_rules/objectaccessrules/Decision;Lcom/example/object_access_rules/objectaccessrules/StatusCode;Ljava/lang/String;Ljava/lang/String;Lcom/example/object_access_rules/objectaccessrules/Result;)V" } : Jvm.MethodName) prog_37_method_3_code (6 : Nat) (Option.none : Option Jvm.ClassFile.FieldType), Jvm.Cond.code ({ cls := "java/lang/Object", name := "<init>", desc := "()V" } : Jvm.MethodName) object_method_1_code (1 : Nat) (Option.none : Option Jvm.ClassFile.FieldType), Jvm.Cond.code ({ cls := "java/util/Objects", name := "requireNonNull", desc := "(Ljava/lang/Object;Ljava/lang/String;)Ljava/lang/Object;" } : Jvm.MethodName) jdk_31_method_11_code (2 : Nat) (Option.some (Jvm.ClassFile.FieldType.object "java/lang/Object")), Jvm.Cond.code ({ cls := "java/lang/String", name := "isEmpty", desc := "()Z" } : Jvm.MethodName) jdk_42_method_55_code (1 : Nat) (Option.some Jvm.ClassFile.FieldType.boolean), Jvm.Cond.code ({ cls := "java/lang/String", name := "<init>", desc := "([C)V" } : Jvm.MethodName) jdk_42_method_3_code (2 : Nat) (Option.none : Option Jvm.ClassFile.FieldType), Jvm.Cond.code ({ cls := "java/lang/String", name := "<init>", desc := "([CIILjava/lang/Void;)V" } : Jvm.MethodName) jdk_42_method_149_code (6 : Nat) (Option.none : Option Jvm.ClassFile.FieldType), Jvm.Cond.code ({ cls := "java/lang/StringUTF16", name := "compress", desc := "([CII)[B" } : Jvm.MethodName) jdk_52_method_16_code (6 : Nat) (Option.some (Jvm.ClassFile.FieldType.array Jvm.ClassFile.FieldType.byte)), Jvm.Cond.code ({ cls := "java/lang/StringUTF16", name := "compress", desc := "([CI[BII)I" } : Jvm.MethodName) jdk_52_method_21_code (7 : Nat) (Option.some Jvm.ClassFile.FieldType.int), Jvm.Cond.code ({ cls := "java/lang/StringUTF16", name := "coderFromArrayLen", desc := "([BI)B" } : Jvm.MethodName) jdk_52_method_15_code (2 : Nat) (Option.some Jvm.ClassFile.FieldType.byte), Jvm.Cond.code ({ cls := "com/example/object_access_rules/objectaccessrules/Result", name := "equals", desc := "(Ljava/lang/Object;)Z" } : Jvm.MethodName) prog_37_method_16_code (3 : Nat) (Option.some Jvm.ClassFile.FieldType.boolean), Jvm.Cond.code ({ cls := "java/lang/String", name := "valueOf", desc := "(C)Ljava/lang/String;" } : Jvm.MethodName) jdk_42_method_139_code (1 : Nat) (Option.some (Jvm.ClassFile.FieldType.object "java/lang/String")), Jvm.Cond.code ({ cls := "java/lang/StringLatin1", name := "canEncode", desc := "(C)Z" } : Jvm.MethodName) jdk_43_method_3_code (1 : Nat) (Option.some Jvm.ClassFile.FieldType.boolean), Jvm.Cond.code ({ cls := "java/lang/StringLatin1", name := "toBytes", desc := "(C)[B" } : Jvm.MethodName) jdk_43_method_46_code (1 : Nat) (Option.some (Jvm.ClassFile.FieldType.array Jvm.ClassFile.FieldType.byte)), Jvm.Cond.code ({ cls := "java/lang/String", name := "<init>", desc := "([BB)V" } : Jvm.MethodName) jdk_42_method_151_code (3 : Nat) (Option.none : Option Jvm.ClassFile.FieldType), Jvm.Cond.code ({ cls := "com/example/object_access_rules/objectaccessrules/Result", name := "through", desc := "(Ljava/lang/String;)Lcom/example/object_access_rules/objectaccessrules/Result;" } : Jvm.MethodName) prog_37_method_13_code (2 : Nat) (Option.some (Jvm.ClassFile.FieldType.object "com/example/object_access_rules/objectaccessrules/Result"))]
set_option maxRecDepth 65536 in
theorem codes_eq : words1.filter isCode = codes1 := rfl
theorem w_codes : ∀ c ∈ words1.filter isCode, c.before args0 about1 = true := by
  rw [codes_eq]
  intro c hc
  simp only [codes1, List.mem_cons, List.not_mem_nil, or_false] at hc
  rcases hc with rfl | rfl | rfl | rfl | rfl | rfl | rfl | rfl | rfl | rfl | rfl | rfl | rfl | rfl | rfl | rfl | rfl | rfl | rfl | rfl
  · exact w_c0
  · exact w_c1
  · exact w_c2
  · exact w_c3
  · exact w_c4
  · exact w_c5
  · exact w_c6
  · exact w_c7
  · exact w_c8
  · exact w_c9
  · exact w_c10
  · exact w_c11
  · exact w_c12
  · exact w_c13
  · exact w_c14
  · exact w_c15
  · exact w_c16
  · exact w_c17
  · exact w_c18
  · exact w_c19
set_option maxRecDepth 65536 in
theorem w_t1 : (words1.take 24).all (fun c => isCode c || c.before args0 about1) = true := by decide +kernel
set_option maxRecDepth 65536 in
theorem w_t2 : ((words1.drop 24).take 24).all (fun c => isCode c || c.before args0 about1) = true := by decide +kernel
set_option maxRecDepth 65536 in
theorem w_t3 : (((words1.drop 24).drop 24).take 24).all (fun c => isCode c || c.before args0 about1) = true := by decide +kernel
set_option maxRecDepth 65536 in
theorem w_t4 : ((((words1.drop 24).drop 24).drop 24).take 24).all (fun c => isCode c || c.before args0 about1) = true := by decide +kernel
set_option maxRecDepth 65536 in
theorem w_t5 : (((((words1.drop 24).drop 24).drop 24).drop 24).take 24).all (fun c => isCode c || c.before args0 about1) = true := by decide +kernel
set_option maxRecDepth 65536 in
theorem w_t6 : (((((words1.drop 24).drop 24).drop 24).drop 24).drop 24).all (fun c => isCode c || c.before args0 about1) = true := by decide +kernel
theorem w_tables : (allAtoms (Jvm.Cond.code x code maxLocals ret :: tables_1)).before args0 about1 = true := by
  rw [allAtoms_all]
  show words1.all (fun c => c.before args0 about1) = true
  refine all_split ?_ w_codes
  rw [← List.take_append_drop 24 words1, List.all_append, w_t1, ← List.take_append_drop 24 (words1.drop 24), List.all_append, w_t2, ← List.take_append_drop 24 ((words1.drop 24).drop 24), List.all_append, w_t3, ← List.take_append_drop 24 (((words1.drop 24).drop 24).drop 24), List.all_append, w_t4, ← List.take_append_drop 24 ((((words1.drop 24).drop 24).drop 24).drop 24), List.all_append, w_t5, w_t6]
  rfl
set_option maxRecDepth 65536 in
theorem w_rest : rest_1_c.before args0 about1 = true := by decide +kernel
set_option maxRecDepth 65536 in
theorem w_case : (Jvm.Cond.and given_1 narrow_1).before args0 about1 = true := by decide +kernel
set_option maxRecDepth 65536 in
theorem w_consts : constsHeld consts_1 about1 := Jvm.Lit.constsHeldB_iff.mp (by decide +kernel)
theorem w_applies : (headSpec (Jvm.Cond.code x code maxLocals ret :: tables_1) room_1).applies x e0.platform about1 = true :=
  (Spec.applies_iff w_frames).mpr ⟨w_running, w_runnable, w_alone, w_named, w_hears, w_ripe, w_room, w_tables⟩
theorem atStart : AtStart classFile x code maxLocals ret World_1 tables_1 room_1 Calls_1 rest_1 Pre_1 launch0 p0 e0 about1 theMethod args0 below0 :=
  ⟨lists_1, trivial, launch0.admits_env _ _ _, launch0.least_env, fairChoices_fair.cas, fairChoices_fair.clock, w_frames, w_args, w_heap, w_applies, ⟨w_consts, trivial⟩, w_rest, w_case⟩
end start1
theorem witness_1 : WitnessClaimed_1 := ⟨start1.p0, start1.e0, start1.about1, start1.theMethod, start1.args0, start1.below0, start1.atStart⟩
end Jvm.Pilot.@@N@@
