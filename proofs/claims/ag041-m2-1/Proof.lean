import JvmDerived
import JvmDerived.Pilot.@@N@@Statement
import JvmDerived.Pilot.@@N@@Code
set_option linter.unusedVariables false
set_option linter.unusedSimpArgs false
/- laws to paste: Road.backV (cut by pick.py; bodies as the Statement names them) -/
namespace Jvm.Pilot.@@N@@
namespace StrChars
open Jvm Sem ClassFile Op Lib Jvm.Stand Jvm.Free.XT Jvm.Free.ALB Jvm.Free.JM Jvm.Free
open Jvm.Lib.Cold (StaticIs)
/-- a char array whose places are chars -/
def Ch (a : Addr) (A : Cell) (U : State) : Prop := Arr .char a A U ∧ Typed .char A
theorem Ch.mv {a : Addr} {A : Cell} {U U' : State} (h : Ch a A U) (hal : U.vm.Alike U'.vm) (hh : U'.heap = U.heap) : Ch a A U' := ⟨h.1.mv hal hh, h.2⟩
theorem Ch.keep {a : Addr} {A : Cell} {U U' : State} (h : Ch a A U) (hal : U.vm.Alike U'.vm) (hk : U'.heap[a]? = some A) : Ch a A U' := ⟨h.1.keep hal hk, h.2⟩
/-- what place i of a char[]'s cell holds -/
def cv (A : Cell) (i : Nat) : Int32 := match A.slots[i]? with | some (.int x) => x | _ => 0
theorem Ch.get {a : Addr} {A : Cell} {U : State} (h : Ch a A U) {i : Nat} (hi : i < A.slots.size) : A.slots[i]? = some (.int (cv A i)) := by
  have e := Array.getElem?_eq_getElem hi
  have f := h.2 i _ e
  unfold cv; rw [e]
  generalize A.slots[i] = v at f
  cases v <;> simp [fits] at f ⊢
/-- the byte that i2b leaves of a char -/
def lo8 (x : Int32) : Int32 := x.toInt8.toInt32
theorem fits_lo8 (y : Int32) : fits .byte (.int (lo8 y)) = true := by
  have h1 := y.toInt8.le_toInt
  have h2 := y.toInt8.toInt_lt
  simp only [lo8, fits, Bool.and_eq_true, decide_eq_true_eq, Int32.le_iff_toInt_le, Int8.toInt_toInt32, show (-128 : Int32).toInt = -128 from by decide, show (127 : Int32).toInt = 127 from by decide]
  omega
/-- A' is A but that each place j of lo .. hi - 1 holds f j -/
def Laid (A A' : Cell) (lo hi : Nat) (f : Nat → Value) : Prop := A'.cls = A.cls ∧ A'.vm = A.vm ∧ A'.slots.size = A.slots.size ∧ ∀ i, A'.slots[i]? = if lo ≤ i ∧ i < hi then some (f i) else A.slots[i]?
theorem Laid.zero (A : Cell) (lo : Nat) (f : Nat → Value) : Laid A A lo (lo + 0) f := ⟨rfl, rfl, rfl, fun i => by rw [if_neg (by omega)]⟩
theorem Laid.step {A Ak : Cell} {lo k : Nat} {f : Nat → Value} {v : Value} (h : Laid A Ak lo k f) (hlo : lo ≤ k) (hk : k < Ak.slots.size) (hv : v = f k) : Laid A (Ak.setSlot k v) lo (k + 1) f := by
  refine ⟨h.1, h.2.1, by simpa [Cell.setSlot] using h.2.2.1, fun i => ?_⟩
  by_cases e : k = i
  · subst e; rw [Cell.slots_setSlot_self v hk, if_pos (by omega), hv]
  · rw [Cell.slots_setSlot_ne v e, h.2.2.2 i]
    by_cases q : lo ≤ i ∧ i < k
    · rw [if_pos q, if_pos (by omega)]
    · rw [if_neg q, if_neg (by omega)]
def U16 : String := "java/lang/StringUTF16"
namespace Cmp5
def yN : MethodName := ⟨"java/lang/StringUTF16", "compress", "([CI[BII)I"⟩
abbrev yB : ByteArray := jdk_52_method_21_code
theorem d0 : decode yB 0 = .ok (.iconst 0, 1) := by decide +kernel
theorem d1 : decode yB 1 = .ok (.istore 5, 2) := by decide +kernel
theorem d3 : decode yB 3 = .ok (.iload 5, 2) := by decide +kernel
theorem d5 : decode yB 5 = .ok (.iload 4, 2) := by decide +kernel
theorem d7 : decode yB 7 = .ok (.if_icmp (.ge) 37, 3) := by decide +kernel
theorem d10 : decode yB 10 = .ok (.aload_n 0, 1) := by decide +kernel
theorem d11 : decode yB 11 = .ok (.iload_n 1, 1) := by decide +kernel
theorem d12 : decode yB 12 = .ok (.caload, 1) := by decide +kernel
theorem d13 : decode yB 13 = .ok (.istore 6, 2) := by decide +kernel
theorem d15 : decode yB 15 = .ok (.iload 6, 2) := by decide +kernel
theorem d17 : decode yB 17 = .ok (.sipush 255, 3) := by decide +kernel
theorem d20 : decode yB 20 = .ok (.if_icmp (.le) 6, 3) := by decide +kernel
theorem d26 : decode yB 26 = .ok (.aload_n 2, 1) := by decide +kernel
theorem d27 : decode yB 27 = .ok (.iload_n 3, 1) := by decide +kernel
theorem d28 : decode yB 28 = .ok (.iload 6, 2) := by decide +kernel
theorem d30 : decode yB 30 = .ok (.i2b, 1) := by decide +kernel
theorem d31 : decode yB 31 = .ok (.bastore, 1) := by decide +kernel
theorem d32 : decode yB 32 = .ok (.iinc 1 1, 3) := by decide +kernel
theorem d35 : decode yB 35 = .ok (.iinc 3 1, 3) := by decide +kernel
theorem d38 : decode yB 38 = .ok (.iinc 5 1, 3) := by decide +kernel
theorem d41 : decode yB 41 = .ok (.goto (-38), 3) := by decide +kernel
theorem d44 : decode yB 44 = .ok (.iload 4, 2) := by decide +kernel
theorem d46 : decode yB 46 = .ok (.ireturn, 1) := by decide +kernel
def site : List Cond := []
def tab : Cond := tabOf yN yB 7 (some .int) site
def P (b : Addr) (A : Cell) (d : Addr) (B : Cell) (o q len : Nat) (args : Array Value) (s : State) : Prop := args = #[.ref b, .int (Int32.ofNat o), .ref d, .int (Int32.ofNat q), .int (Int32.ofNat len)] ∧ Ch b A s ∧ Arr .byte d B s ∧ b ≠ d ∧ o + len ≤ A.slots.size ∧ q + len ≤ B.slots.size ∧ ∀ i, i < len → ¬ 255 < cv A (o + i)
def E (b : Addr) (A : Cell) (d : Addr) (B : Cell) (o q len : Nat) (r : Option Value) (s u : State) : Prop := r = some (.int (Int32.ofNat len)) ∧ ∃ B', Put d B' s u ∧ Laid B B' q (q + len) (fun j => Value.int (lo8 (cv A (o + (j - q)))))
/-- no char of the range above 255: len; the places written hold each char's low byte -/
theorem law (l : Launch) (b : Addr) (A : Cell) (d : Addr) (B : Cell) (o q len : Nat) : Law l yN 5 5 0 0 yB 7 (some .int) site (P b A d B o q len) (E b A d B o q len) (copyLocs d q len) 0 0 := by
  refine Law.of_walk (plainFor_of_name (by decide +kernel)) (by decide +kernel) (by decide +kernel) (by decide) (fun _ _ h => by rw [h.1]; rfl) (fun _ U U' hal hh h => ⟨h.1, h.2.1.mv hal hh, h.2.2.1.mv hal hh, h.2.2.2⟩) (fun r U U' V V' h1 hal h2 h => ⟨h.1, h.2.elim fun B' q => ⟨B', q.1.mv h1 h2, q.2⟩⟩) ?_
  intro p e s m args below meth c s₁ X0 hexec hbytes hml hret hlk hnm hown hh0 W hP
  obtain ⟨rfl, hA, hB, hne, l1, l2, hp⟩ := hP
  have c1 : Steps p.tables e below (s₁.setTop (entryFrame m #[.ref b, .int (Int32.ofNat o), .ref d, .int (Int32.ofNat q), .int (Int32.ofNat len)] 7)) (s₁.setTop (mkF m 0 #[.val (.ref b), .val (.int (Int32.ofNat o)), .val (.ref d), .val (.int (Int32.ofNat q)), .val (.int (Int32.ofNat len)), .unset, .unset] [])) := entry rfl
  have hA0 := hA.1.mv X0.warmed.alike hh0
  have hB0 := hB.mv X0.warmed.alike hh0
  have a31 := hA.1.2.2.2
  have c2 : Steps p.tables e below (s₁.setTop (entryFrame m #[.ref b, .int (Int32.ofNat o), .ref d, .int (Int32.ofNat q), .int (Int32.ofNat len)] 7)) (s₁.setTop (mkF m 3 #[.val (.ref b), .val (.int (Int32.ofNat o)), .val (.ref d), .val (.int (Int32.ofNat q)), .val (.int (Int32.ofNat len)), .val (.int 0), .unset] [])) := c1.trans (by
    refine iconstV X0.here hexec rfl 0 (hb hbytes d0) (by decide) ?_
    refine XS.istore X0.here hexec rfl (hb hbytes d1) rfl rfl ?_
    exact Steps.refl _)
  have loop : ∀ (r i : Nat), i + r = len → ∀ (z : Slot), (z = .unset ∨ ∃ w, z = .val w ∧ w.category = 1) → ∀ (Tl : State) (Bk : Cell), Stand p l e { frames := 0, locals := 0, cells := 0, slots := 0 } s m #[.ref b, .int (Int32.ofNat o), .ref d, .int (Int32.ofNat q), .int (Int32.ofNat len)] below meth c Tl ([] ++ copyLocs d q i) 0 0 → Put d Bk s₁ Tl → Laid B Bk q (q + i) (fun j => Value.int (lo8 (cv A (o + (j - q))))) →
      Steps p.tables e below (s₁.setTop (entryFrame m #[.ref b, .int (Int32.ofNat o), .ref d, .int (Int32.ofNat q), .int (Int32.ofNat len)] 7)) (Tl.setTop (mkF m 3 #[.val (.ref b), .val (.int (Int32.ofNat (o + i))), .val (.ref d), .val (.int (Int32.ofNat (q + i))), .val (.int (Int32.ofNat len)), .val (.int (Int32.ofNat i)), z] [])) → ∃ (T' : State) (B' : Cell) (z' : Slot), Stand p l e { frames := 0, locals := 0, cells := 0, slots := 0 } s m #[.ref b, .int (Int32.ofNat o), .ref d, .int (Int32.ofNat q), .int (Int32.ofNat len)] below meth c T' ([] ++ copyLocs d q len) 0 0 ∧ Put d B' s₁ T' ∧ Laid B B' q (q + len) (fun j => Value.int (lo8 (cv A (o + (j - q))))) ∧
      Steps p.tables e below (s₁.setTop (entryFrame m #[.ref b, .int (Int32.ofNat o), .ref d, .int (Int32.ofNat q), .int (Int32.ofNat len)] 7)) (T'.setTop (mkF m 3 #[.val (.ref b), .val (.int (Int32.ofNat (o + len))), .val (.ref d), .val (.int (Int32.ofNat (q + len))), .val (.int (Int32.ofNat len)), .val (.int (Int32.ofNat len)), z'] [])) := by
    intro r
    induction r with
    | zero =>
      intro i hi z hz Tl Bk Xl pl fl cl
      have hil : i = len := by omega
      rw [hil] at Xl fl cl
      exact ⟨Tl, Bk, z, Xl, pl, fl, cl⟩
    | succ r ih =>
      intro i hi z hz Tl Bk Xl pl fl cl
      have all := X0.warmed.alike.symm.trans Xl.warmed.alike
      have hAl := hA0.keep all (pl.other hne hA0.1)
      have hBk := hB0.like all pl.1 fl.1 fl.2.1 fl.2.2.1
      have hlt : q + i < Bk.slots.size := by rw [fl.2.2.1]; omega
      have c3 : Steps p.tables e below (s₁.setTop (entryFrame m #[.ref b, .int (Int32.ofNat o), .ref d, .int (Int32.ofNat q), .int (Int32.ofNat len)] 7)) (Tl.setTop (mkF m 12 #[.val (.ref b), .val (.int (Int32.ofNat (o + i))), .val (.ref d), .val (.int (Int32.ofNat (q + i))), .val (.int (Int32.ofNat len)), .val (.int (Int32.ofNat i)), z] [.int (Int32.ofNat (o + i)), .ref b])) := cl.trans (by
        refine XS.iload Xl.here hexec rfl (hb hbytes d3) rfl ?_
        refine XS.iload Xl.here hexec rfl (hb hbytes d5) rfl ?_
        refine XS.icmpNo Xl.here hexec rfl (hb hbytes d7) rfl (ii_ge_f (lt32 (by omega) (by omega))) ?_
        refine XS.aloadN Xl.here hexec rfl (hb hbytes d10) rfl rfl ?_
        refine XS.iloadN Xl.here hexec rfl (hb hbytes d11) rfl ?_
        exact Steps.refl _)
      have c4 : Steps p.tables e below (s₁.setTop (entryFrame m #[.ref b, .int (Int32.ofNat o), .ref d, .int (Int32.ofNat q), .int (Int32.ofNat len)] 7)) (Tl.setTop (mkF m 13 #[.val (.ref b), .val (.int (Int32.ofNat (o + i))), .val (.ref d), .val (.int (Int32.ofNat (q + i))), .val (.int (Int32.ofNat len)), .val (.int (Int32.ofNat i)), z] [.int (cv A (o + i))])) := c3.trans (by
        refine Xl.aget hexec hAl rfl (hA.get (i := o + i) (by omega)) rfl rfl (hb hbytes d12) ?_
        exact Steps.refl _)
      have c5 : Steps p.tables e below (s₁.setTop (entryFrame m #[.ref b, .int (Int32.ofNat o), .ref d, .int (Int32.ofNat q), .int (Int32.ofNat len)] 7)) (Tl.setTop (mkF m 15 #[.val (.ref b), .val (.int (Int32.ofNat (o + i))), .val (.ref d), .val (.int (Int32.ofNat (q + i))), .val (.int (Int32.ofNat len)), .val (.int (Int32.ofNat i)), .val (.int (cv A (o + i)))] [])) := c4.trans (by
        refine XS.istoreS Xl.here hexec rfl (hb hbytes d13) rfl rfl hz ?_
        exact Steps.refl _)
      have c6 : Steps p.tables e below (s₁.setTop (entryFrame m #[.ref b, .int (Int32.ofNat o), .ref d, .int (Int32.ofNat q), .int (Int32.ofNat len)] 7)) (Tl.setTop (mkF m 31 #[.val (.ref b), .val (.int (Int32.ofNat (o + i))), .val (.ref d), .val (.int (Int32.ofNat (q + i))), .val (.int (Int32.ofNat len)), .val (.int (Int32.ofNat i)), .val (.int (cv A (o + i)))] [.int (lo8 (cv A (o + i))), .int (Int32.ofNat (q + i)), .ref d])) := c5.trans (by
        refine XS.iload Xl.here hexec rfl (hb hbytes d15) rfl ?_
        refine sipushV Xl.here hexec rfl 255 (hb hbytes d17) (by decide) ?_
        refine XS.icmpYes Xl.here hexec rfl (pc0 := 20) rfl (hb hbytes d20) rfl (ii_le_t (hp i (by omega))) (by decide) rfl ?_
        refine XS.aloadN Xl.here hexec rfl (hb hbytes d26) rfl rfl ?_
        refine XS.iloadN Xl.here hexec rfl (hb hbytes d27) rfl ?_
        refine XS.iload Xl.here hexec rfl (hb hbytes d28) rfl ?_
        refine i2b Xl.here hexec rfl (hb hbytes d30) rfl ?_
        exact Steps.refl _)
      obtain ⟨T7, X7, p7, st7⟩ := Xl.aput hexec hBk rfl hlt rfl (fits_lo8 (cv A (o + i))) (g := (mkF m 31 #[.val (.ref b), .val (.int (Int32.ofNat (o + i))), .val (.ref d), .val (.int (Int32.ofNat (q + i))), .val (.int (Int32.ofNat len)), .val (.int (Int32.ofNat i)), .val (.int (cv A (o + i)))] [.int (lo8 (cv A (o + i))), .int (Int32.ofNat (q + i)), .ref d])) rfl (rest := []) rfl (hb hbytes d31)
      have c8 : Steps p.tables e below (s₁.setTop (entryFrame m #[.ref b, .int (Int32.ofNat o), .ref d, .int (Int32.ofNat q), .int (Int32.ofNat len)] 7)) (T7.setTop (mkF m 32 #[.val (.ref b), .val (.int (Int32.ofNat (o + i))), .val (.ref d), .val (.int (Int32.ofNat (q + i))), .val (.int (Int32.ofNat len)), .val (.int (Int32.ofNat i)), .val (.int (cv A (o + i)))] [])) := c6.trans (st7 _ (Steps.refl _))
      have c9 : Steps p.tables e below (s₁.setTop (entryFrame m #[.ref b, .int (Int32.ofNat o), .ref d, .int (Int32.ofNat q), .int (Int32.ofNat len)] 7)) (T7.setTop (mkF m 3 #[.val (.ref b), .val (.int (Int32.ofNat (o + i) + 1)), .val (.ref d), .val (.int (Int32.ofNat (q + i) + 1)), .val (.int (Int32.ofNat len)), .val (.int (Int32.ofNat i + 1)), .val (.int (cv A (o + i)))] [])) := c8.trans (by
        refine iincV X7.here hexec rfl 1 (hb hbytes d32) (by decide) rfl rfl ?_
        refine iincV X7.here hexec rfl 1 (hb hbytes d35) (by decide) rfl rfl ?_
        refine iincV X7.here hexec rfl 1 (hb hbytes d38) (by decide) rfl rfl ?_
        refine XS.goto X7.here hexec rfl (pc0 := 41) rfl (hb hbytes d41) (by decide) rfl ?_
        exact Steps.refl _)
      have c10 : Steps p.tables e below (s₁.setTop (entryFrame m #[.ref b, .int (Int32.ofNat o), .ref d, .int (Int32.ofNat q), .int (Int32.ofNat len)] 7)) (T7.setTop (mkF m 3 #[.val (.ref b), .val (.int (Int32.ofNat (o + (i + 1)))), .val (.ref d), .val (.int (Int32.ofNat (q + (i + 1)))), .val (.int (Int32.ofNat len)), .val (.int (Int32.ofNat (i + 1))), .val (.int (cv A (o + i)))] [])) := by
        have := c9
        rw [succ32, succ32, succ32] at this
        exact this
      exact ih (i + 1) (by omega) _ (Or.inr ⟨_, rfl, rfl⟩) T7 _ (by rw [copyLocs_step, ← List.append_assoc]; exact X7) (pl.trans p7) (fl.step (by omega) hlt (by simp)) c10
  obtain ⟨T9, B9, z9, X9, p9, f9, g9⟩ := loop len 0 (by omega) .unset (Or.inl rfl) s₁ B (by simpa [copyLocs] using X0) ⟨hB0.1, fun _ _ => rfl, rfl⟩ (Laid.zero _ _ _) c2
  have c11 : Steps p.tables e below (s₁.setTop (entryFrame m #[.ref b, .int (Int32.ofNat o), .ref d, .int (Int32.ofNat q), .int (Int32.ofNat len)] 7)) (T9.setTop (mkF m 46 #[.val (.ref b), .val (.int (Int32.ofNat (o + len))), .val (.ref d), .val (.int (Int32.ofNat (q + len))), .val (.int (Int32.ofNat len)), .val (.int (Int32.ofNat len)), z9] [.int (Int32.ofNat len)])) := g9.trans (by
    refine XS.iload X9.here hexec rfl (hb hbytes d3) rfl ?_
    refine XS.iload X9.here hexec rfl (hb hbytes d5) rfl ?_
    refine XS.icmpYes X9.here hexec rfl (pc0 := 7) rfl (hb hbytes d7) rfl (ii_ge_t (nlt32 (by omega) (Nat.le_refl _))) (by decide) rfl ?_
    refine XS.iload X9.here hexec rfl (hb hbytes d44) rfl ?_
    exact Steps.refl _)
  exact ⟨T9, some (.int (Int32.ofNat len)), _, _, _, X9, by simp, rfl, rfl, (fun h => by cases h), ⟨rfl, B9, p9.from hh0, f9⟩, fun fs hl => c11.trans (X9.ireturnOut hexec hret rfl (Or.inl rfl) (hb hbytes d46) hl)⟩
end Cmp5
namespace Cmp3
def yN : MethodName := ⟨"java/lang/StringUTF16", "compress", "([CII)[B"⟩
abbrev yB : ByteArray := jdk_52_method_16_code
theorem d0 : decode yB 0 = .ok (.iload_n 2, 1) := by decide +kernel
theorem d1 : decode yB 1 = .ok (.newarray .byte, 2) := by decide +kernel
theorem d3 : decode yB 3 = .ok (.astore_n 3, 1) := by decide +kernel
theorem d4 : decode yB 4 = .ok (.aload_n 0, 1) := by decide +kernel
theorem d5 : decode yB 5 = .ok (.iload_n 1, 1) := by decide +kernel
theorem d6 : decode yB 6 = .ok (.aload_n 3, 1) := by decide +kernel
theorem d7 : decode yB 7 = .ok (.iconst 0, 1) := by decide +kernel
theorem d8 : decode yB 8 = .ok (.iload_n 2, 1) := by decide +kernel
theorem d9 : decode yB 9 = .ok (.invokestatic 115, 3) := by decide +kernel
theorem d12 : decode yB 12 = .ok (.istore 4, 2) := by decide +kernel
theorem d14 : decode yB 14 = .ok (.iload 4, 2) := by decide +kernel
theorem d16 : decode yB 16 = .ok (.iload_n 2, 1) := by decide +kernel
theorem d17 : decode yB 17 = .ok (.if_icmp (.eq) 40, 3) := by decide +kernel
theorem d57 : decode yB 57 = .ok (.aload_n 3, 1) := by decide +kernel
theorem d58 : decode yB 58 = .ok (.areturn, 1) := by decide +kernel
def site : List Cond := [.arrayClass .byte, Cmp5.tab] ++ staticW U16 115 Cmp5.yN
def tab : Cond := tabOf yN yB 6 (some (.array .byte)) site
def P (b : Addr) (A : Cell) (o len : Nat) (args : Array Value) (s : State) : Prop := args = #[.ref b, .int (Int32.ofNat o), .int (Int32.ofNat len)] ∧ Ch b A s ∧ o + len ≤ A.slots.size ∧ len ≤ 536870912 ∧ ∀ i, i < len → ¬ 255 < cv A (o + i)
def E (b : Addr) (A : Cell) (o len : Nat) (r : Option Value) (s u : State) : Prop := NewArr .byte "[B" len (fun j => .int (lo8 (cv A (o + j)))) r s u ∧ u.heap.size = s.heap.size + 1
/-- no char of the range above 255: a new byte[] of their low bytes -/
theorem law (l : Launch) (b : Addr) (A : Cell) (o len : Nat) : Law l yN 3 3 1 18 yB 6 (some (.array .byte)) site (P b A o len) (E b A o len) [] 1 len := by
  refine Law.of_walk (plainFor_of_name (by decide +kernel)) (by decide +kernel) (by decide +kernel) (by decide) (fun _ _ h => by rw [h.1]; rfl) (fun _ U U' hal hh h => ⟨h.1, h.2.1.mv hal hh, h.2.2⟩) (fun r U U' V V' h1 hal h2 h => ⟨NewArr.mv r U U' V V' h1 hal h2 h.1, by rw [h1, h2]; exact h.2⟩) ?_
  intro p e s m args below meth c s₁ X0 hexec hbytes hml hret hlk hnm hown hh0 W hP
  obtain ⟨rfl, hA, l1, l2, hp⟩ := hP
  have a31 := hA.1.2.2.2
  have c1 : Steps p.tables e below (s₁.setTop (entryFrame m #[.ref b, .int (Int32.ofNat o), .int (Int32.ofNat len)] 6)) (s₁.setTop (mkF m 0 #[.val (.ref b), .val (.int (Int32.ofNat o)), .val (.int (Int32.ofNat len)), .unset, .unset, .unset] [])) := entry rfl
  have c2 : Steps p.tables e below (s₁.setTop (entryFrame m #[.ref b, .int (Int32.ofNat o), .int (Int32.ofNat len)] 6)) (s₁.setTop (mkF m 1 #[.val (.ref b), .val (.int (Int32.ofNat o)), .val (.int (Int32.ofNat len)), .unset, .unset, .unset] [.int (Int32.ofNat len)])) := c1.trans (by
    refine XS.iloadN X0.here hexec rfl (hb hbytes d0) rfl ?_
    exact Steps.refl _)
  obtain ⟨T3, B3, X3, ba3, bs3, bv3, bh3, bf3, st3⟩ := X0.anew hexec (atype := .byte) (wk W (.arrayClass .byte)) rfl (by show len * 1 ≤ _; omega) (by omega) (g := (mkF m 1 #[.val (.ref b), .val (.int (Int32.ofNat o)), .val (.int (Int32.ofNat len)), .unset, .unset, .unset] [.int (Int32.ofNat len)])) rfl (hb hbytes d1) (rest := []) rfl (Nat.le_refl _) (by show 0 + len ≤ len; omega)
  rw [hh0] at ba3 st3
  have kp3 : XT.Kept s T3 := (XT.Kept.of_eq hh0).push bh3
  have hA3 := hA.keep X3.warmed.alike (kp3 _ _ hA.1.1)
  have hne : b ≠ s.heap.size := hA.1.ne
  have c4 : Steps p.tables e below (s₁.setTop (entryFrame m #[.ref b, .int (Int32.ofNat o), .int (Int32.ofNat len)] 6)) (T3.setTop (mkF m 3 #[.val (.ref b), .val (.int (Int32.ofNat o)), .val (.int (Int32.ofNat len)), .unset, .unset, .unset] [.ref s.heap.size])) := c2.trans (st3 _ (Steps.refl _))
  have c5 : Steps p.tables e below (s₁.setTop (entryFrame m #[.ref b, .int (Int32.ofNat o), .int (Int32.ofNat len)] 6)) (T3.setTop (mkF m 9 #[.val (.ref b), .val (.int (Int32.ofNat o)), .val (.int (Int32.ofNat len)), .val (.ref s.heap.size), .unset, .unset] [.int (Int32.ofNat len), .int 0, .ref s.heap.size, .int (Int32.ofNat o), .ref b])) := c4.trans (by
    refine XS.astoreN X3.here hexec rfl (hb hbytes d3) rfl rfl rfl ?_
    refine XS.aloadN X3.here hexec rfl (hb hbytes d4) rfl rfl ?_
    refine XS.iloadN X3.here hexec rfl (hb hbytes d5) rfl ?_
    refine XS.aloadN X3.here hexec rfl (hb hbytes d6) rfl rfl ?_
    refine iconstV X3.here hexec rfl 0 (hb hbytes d7) (by decide) ?_
    refine XS.iloadN X3.here hexec rfl (hb hbytes d8) rfl ?_
    exact Steps.refl _)
  obtain ⟨v6, T6, X6, E6, g6⟩ := X3.callS hexec (Cmp5.law l b A s.heap.size B3 o 0 len) hown (wks W (staticW U16 115 Cmp5.yN)) (wk W Cmp5.tab) (W := 0) (Nat.le_of_ble_eq_true rfl) (Nat.le_of_ble_eq_true rfl) (Nat.le_refl _) (by show 0 + len + 0 ≤ len; omega) (g := (mkF m 9 #[.val (.ref b), .val (.int (Int32.ofNat o)), .val (.int (Int32.ofNat len)), .val (.ref s.heap.size), .unset, .unset] [.int (Int32.ofNat len), .int (Int32.ofNat 0), .ref s.heap.size, .int (Int32.ofNat o), .ref b])) rfl (by rw [hml]; rfl) c5 (argsL := [.ref b, .int (Int32.ofNat o), .ref s.heap.size, .int (Int32.ofNat 0), .int (Int32.ofNat len)]) (rest := []) rfl rfl (by show 2 * 0 + 0 ≤ _; decide) (hb hbytes d9) (⟨rfl, hA3, ba3, hne, l1, by rw [bs3]; simp, hp⟩)
  obtain ⟨rfl, B6, p6, f6⟩ := E6
  have c7 : Steps p.tables e below (s₁.setTop (entryFrame m #[.ref b, .int (Int32.ofNat o), .int (Int32.ofNat len)] 6)) (T6.setTop (mkF m 12 #[.val (.ref b), .val (.int (Int32.ofNat o)), .val (.int (Int32.ofNat len)), .val (.ref s.heap.size), .unset, .unset] [.int (Int32.ofNat len)])) := g6
  have c8 : Steps p.tables e below (s₁.setTop (entryFrame m #[.ref b, .int (Int32.ofNat o), .int (Int32.ofNat len)] 6)) (T6.setTop (mkF m 58 #[.val (.ref b), .val (.int (Int32.ofNat o)), .val (.int (Int32.ofNat len)), .val (.ref s.heap.size), .val (.int (Int32.ofNat len)), .unset] [.ref s.heap.size])) := c7.trans (by
    refine XS.istore X6.here hexec rfl (hb hbytes d12) rfl rfl ?_
    refine XS.iload X6.here hexec rfl (hb hbytes d14) rfl ?_
    refine XS.iloadN X6.here hexec rfl (hb hbytes d16) rfl ?_
    refine XS.icmpYes X6.here hexec rfl (pc0 := 17) rfl (hb hbytes d17) rfl (ii_eq_t rfl) (by decide) rfl ?_
    refine XS.aloadN X6.here hexec rfl (hb hbytes d57) rfl rfl ?_
    exact Steps.refl _)
  have X8 := X6.wide (L' := []) (cells' := 1) (slots' := len) (fun x hx hlt => by
    simp only [List.nil_append, copyLocs, List.mem_map, List.mem_range] at hx
    obtain ⟨i, -, rfl⟩ := hx
    exact absurd hlt (Nat.lt_irrefl _)) (Nat.le_refl _) (by omega)
  exact ⟨T6, some (.ref s.heap.size), _, _, _, X8, rfl, rfl, rfl, (fun h => by cases h), ⟨⟨rfl, B6, ba3.like (X3.warmed.alike.symm.trans X6.warmed.alike) p6.1 f6.1 f6.2.1 f6.2.2.1, f6.2.1.trans bv3, by rw [X6.warmed.alike.findClass, f6.1]; exact bf3, by rw [f6.2.2.1, bs3]; simp, fun j hj => by rw [f6.2.2.2 j, if_pos (by omega)]; rfl, kp3.put p6 (Nat.le_refl _)⟩, by rw [p6.2.2, bh3, hh0]; simp⟩, fun fs hl => c8.trans (X8.areturnOut hexec rfl hret rfl (hb hbytes d58) hl)⟩
end Cmp3
namespace CodL
def yN : MethodName := ⟨"java/lang/StringUTF16", "coderFromArrayLen", "([BI)B"⟩
abbrev yB : ByteArray := jdk_52_method_15_code
theorem d0 : decode yB 0 = .ok (.iload_n 1, 1) := by decide +kernel
theorem d1 : decode yB 1 = .ok (.aload_n 0, 1) := by decide +kernel
theorem d2 : decode yB 2 = .ok (.arraylength, 1) := by decide +kernel
theorem d3 : decode yB 3 = .ok (.isub, 1) := by decide +kernel
theorem d4 : decode yB 4 = .ok (.bipush 31, 2) := by decide +kernel
theorem d6 : decode yB 6 = .ok (.iushr, 1) := by decide +kernel
theorem d7 : decode yB 7 = .ok (.i2b, 1) := by decide +kernel
theorem d8 : decode yB 8 = .ok (.ireturn, 1) := by decide +kernel
def site : List Cond := []
def tab : Cond := tabOf yN yB 2 (some .byte) site
def P (d : Addr) (B : Cell) (args : Array Value) (s : State) : Prop := args = #[.ref d, .int (Int32.ofNat B.slots.size)] ∧ Arr .byte d B s
def E (r : Option Value) (s u : State) : Prop := XT.PureE (some (.int 0)) r s u
/-- an array as long as the number of chars: LATIN1 -/
theorem law (l : Launch) (d : Addr) (B : Cell) : Law l yN 2 2 0 0 yB 2 (some .byte) site (P d B) E [] 0 0 := by
  refine Law.of_walk (plainFor_of_name (by decide +kernel)) (by decide +kernel) (by decide +kernel) (by decide) (fun _ _ h => by rw [h.1]; rfl) (fun _ U U' hal hh h => ⟨h.1, h.2.mv hal hh⟩) (fun r U U' V V' h1 hal h2 h => XT.PureE.mv r U U' V V' h1 hal h2 h) ?_
  intro p e s m args below meth c s₁ X0 hexec hbytes hml hret hlk hnm hown hh0 W hP
  obtain ⟨rfl, hB⟩ := hP
  have hB0 := hB.mv X0.warmed.alike hh0
  have c1 : Steps p.tables e below (s₁.setTop (entryFrame m #[.ref d, .int (Int32.ofNat B.slots.size)] 2)) (s₁.setTop (mkF m 0 #[.val (.ref d), .val (.int (Int32.ofNat B.slots.size))] [])) := entry rfl
  have c2 : Steps p.tables e below (s₁.setTop (entryFrame m #[.ref d, .int (Int32.ofNat B.slots.size)] 2)) (s₁.setTop (mkF m 2 #[.val (.ref d), .val (.int (Int32.ofNat B.slots.size))] [.ref d, .int (Int32.ofNat B.slots.size)])) := c1.trans (by
    refine XS.iloadN X0.here hexec rfl (hb hbytes d0) rfl ?_
    refine XS.aloadN X0.here hexec rfl (hb hbytes d1) rfl rfl ?_
    exact Steps.refl _)
  have c3 : Steps p.tables e below (s₁.setTop (entryFrame m #[.ref d, .int (Int32.ofNat B.slots.size)] 2)) (s₁.setTop (mkF m 8 #[.val (.ref d), .val (.int (Int32.ofNat B.slots.size))] [.int (lo8 (ushr (Int32.ofNat B.slots.size - Int32.ofNat B.slots.size) 31))])) := c2.trans (by
    refine X0.alen hexec hB0 rfl rfl (hb hbytes d2) ?_
    refine XS.isub X0.here hexec rfl (hb hbytes d3) rfl ?_
    refine bipushV X0.here hexec rfl 31 (hb hbytes d4) (by decide) ?_
    refine iushr X0.here hexec rfl (hb hbytes d6) rfl ?_
    refine i2b X0.here hexec rfl (hb hbytes d7) rfl ?_
    exact Steps.refl _)
  have e0 : lo8 (ushr (Int32.ofNat B.slots.size - Int32.ofNat B.slots.size) 31) = 0 := by rw [Int32.sub_self]; decide
  rw [e0] at c3
  exact ⟨s₁, some (.int 0), _, _, _, X0, rfl, rfl, rfl, (fun h => by cases h), ⟨rfl, hh0⟩, fun fs hl => c3.trans (X0.ireturnOut hexec hret rfl (Or.inr (Or.inr (Or.inl rfl))) (hb hbytes d8) hl)⟩
end CodL
/-- the String at a is Latin-1 over a new byte[] (the heap's one new cell): the low bytes of the len chars of A from o on; every cell but a is kept -/
def Got (a : Addr) (D : Cell) (fV fC : Field) (A : Cell) (o len : Nat) (r : Option Value) (s u : State) : Prop := r = none ∧ ∃ D' V : Cell, Blank "java/lang/String" a D' u ∧ Same D D' [fV.slot, fC.slot] ∧ D'.slots[fV.slot]? = some (.ref s.heap.size) ∧ D'.slots[fC.slot]? = some (.int 0) ∧ Arr .byte s.heap.size V u ∧ V.vm = .none ∧ u.vm.findClass "[B" = some V.cls ∧ V.slots.size = len ∧ (∀ j, j < len → V.slots[j]? = some (.int (lo8 (cv A (o + j))))) ∧ (∀ (y : Addr) (c : Cell), y ≠ a → s.heap[y]? = some c → u.heap[y]? = some c) ∧ u.heap.size = s.heap.size + 1
theorem Got.mv {a : Addr} {D A : Cell} {fV fC : Field} {o len : Nat} : ∀ r (U U' V V' : State), U'.heap = U.heap → V.vm.Alike V'.vm → V'.heap = V.heap → Got a D fV fC A o len r U V → Got a D fV fC A o len r U' V' :=
  fun r U U' V V' h1 hal h2 ⟨e0, D', X, a1, a2, a3, a4, a5, a6, a7, a8, a9, a10, a11⟩ => ⟨e0, D', X, a1.mv hal h2, a2, by rw [h1]; exact a3, a4, by rw [h1]; exact a5.mv hal h2, a6, by rw [hal.findClass]; exact a7, a8, a9, by rw [h1, h2]; exact a10, by rw [h1, h2]; exact a11⟩
namespace New4
def yN : MethodName := ⟨"java/lang/String", "<init>", "([CIILjava/lang/Void;)V"⟩
abbrev yB : ByteArray := jdk_42_method_149_code
theorem d0 : decode yB 0 = .ok (.aload_n 0, 1) := by decide +kernel
theorem d1 : decode yB 1 = .ok (.invokespecial 1, 3) := by decide +kernel
theorem d4 : decode yB 4 = .ok (.iload_n 3, 1) := by decide +kernel
theorem d5 : decode yB 5 = .ok (.ifCond (.ne) 22, 3) := by decide +kernel
theorem d27 : decode yB 27 = .ok (.getstatic 38, 3) := by decide +kernel
theorem d30 : decode yB 30 = .ok (.ifCond (.eq) 28, 3) := by decide +kernel
theorem d33 : decode yB 33 = .ok (.aload_n 1, 1) := by decide +kernel
theorem d34 : decode yB 34 = .ok (.iload_n 2, 1) := by decide +kernel
theorem d35 : decode yB 35 = .ok (.iload_n 3, 1) := by decide +kernel
theorem d36 : decode yB 36 = .ok (.invokestatic 177, 3) := by decide +kernel
theorem d39 : decode yB 39 = .ok (.astore 5, 2) := by decide +kernel
theorem d41 : decode yB 41 = .ok (.aload_n 0, 1) := by decide +kernel
theorem d42 : decode yB 42 = .ok (.aload 5, 2) := by decide +kernel
theorem d44 : decode yB 44 = .ok (.iload_n 3, 1) := by decide +kernel
theorem d45 : decode yB 45 = .ok (.invokestatic 47, 3) := by decide +kernel
theorem d48 : decode yB 48 = .ok (.putfield 15, 3) := by decide +kernel
theorem d51 : decode yB 51 = .ok (.aload_n 0, 1) := by decide +kernel
theorem d52 : decode yB 52 = .ok (.aload 5, 2) := by decide +kernel
theorem d54 : decode yB 54 = .ok (.putfield 9, 3) := by decide +kernel
theorem d57 : decode yB 57 = .ok (.return_, 1) := by decide +kernel
def site : List Cond := [.fieldLink "java/lang/String" 38 "java/lang/String" "COMPACT_STRINGS" "Z", Cmp3.tab, CodL.tab, .laysFinal "java/lang/String" "java/lang/String" "value" "[B", .fieldLink "java/lang/String" 9 "java/lang/String" "value" "[B", .laysFinal "java/lang/String" "java/lang/String" "coder" "B", .fieldLink "java/lang/String" 15 "java/lang/String" "coder" "B"] ++ objW "java/lang/String" 1 ++ staticW "java/lang/String" 177 Cmp3.yN ++ staticW "java/lang/String" 47 CodL.yN
def tab : Cond := tabOf yN yB 6 none site
def P (a : Addr) (D : Cell) (fV fC : Field) (b : Addr) (A : Cell) (z : Int32) (o len : Nat) (args : Array Value) (s : State) : Prop := args = #[.ref a, .ref b, .int (Int32.ofNat o), .int (Int32.ofNat len), .null] ∧ Blank "java/lang/String" a D s ∧ Found "java/lang/String" "value" "[B" fV s ∧ Found "java/lang/String" "coder" "B" fC s ∧ Ch b A s ∧ StaticIs s "java/lang/String" "COMPACT_STRINGS" "Z" (.int z) ∧ ¬ z = 0 ∧ 0 < len ∧ o + len ≤ A.slots.size ∧ len ≤ 536870912 ∧ ∀ i, i < len → ¬ 255 < cv A (o + i)
def E (a : Addr) (D : Cell) (fV fC : Field) (A : Cell) (o len : Nat) (r : Option Value) (s u : State) : Prop := Got a D fV fC A o len r s u
/-- len > 0, no char of the range above 255: a Latin-1 String of their low bytes -/
theorem law (l : Launch) (a : Addr) (D : Cell) (fV fC : Field) (b : Addr) (A : Cell) (z : Int32) (o len : Nat) : Law l yN 5 4 2 35 yB 6 none site (P a D fV fC b A z o len) (E a D fV fC A o len) [⟨a, fC.slot⟩, ⟨a, fV.slot⟩] 1 len := by
  refine Law.of_walk (plainFor_of_name (by decide +kernel)) (by decide +kernel) (by decide +kernel) (by decide) (fun _ _ h => by rw [h.1]; rfl) (fun _ U U' hal hh h => ⟨h.1, h.2.1.mv hal hh, h.2.2.1.al hal, h.2.2.2.1.al hal, h.2.2.2.2.1.mv hal hh, h.2.2.2.2.2.1.there hal hh, h.2.2.2.2.2.2⟩) (fun r U U' V V' h1 hal h2 h => Got.mv r U U' V V' h1 hal h2 h) ?_
  intro p e s m args below meth c s₁ X0 hexec hbytes hml hret hlk hnm hown hh0 W hP
  obtain ⟨rfl, hB, f1, f2, hA, s1, hz, l0, l1, l2, hp⟩ := hP
  have a31 := hA.1.2.2.2
  have c1 : Steps p.tables e below (s₁.setTop (entryFrame m #[.ref a, .ref b, .int (Int32.ofNat o), .int (Int32.ofNat len), .null] 6)) (s₁.setTop (mkF m 0 #[.val (.ref a), .val (.ref b), .val (.int (Int32.ofNat o)), .val (.int (Int32.ofNat len)), .val .null, .unset] [])) := entry rfl
  have c2 : Steps p.tables e below (s₁.setTop (entryFrame m #[.ref a, .ref b, .int (Int32.ofNat o), .int (Int32.ofNat len), .null] 6)) (s₁.setTop (mkF m 1 #[.val (.ref a), .val (.ref b), .val (.int (Int32.ofNat o)), .val (.int (Int32.ofNat len)), .val .null, .unset] [.ref a])) := c1.trans (by
    refine XS.aloadN X0.here hexec rfl (hb hbytes d0) rfl rfl ?_
    exact Steps.refl _)
  obtain ⟨T3, X3, q3, st3⟩ := X0.oinit hexec hown (wks W (objW "java/lang/String" 1)) (g := (mkF m 1 #[.val (.ref a), .val (.ref b), .val (.int (Int32.ofNat o)), .val (.int (Int32.ofNat len)), .val .null, .unset] [.ref a])) rfl (by rw [hml]; rfl) (rest := []) rfl (hb hbytes d1) (W := 0) (by show 2 * 0 + 0 ≤ _; decide) (Nat.le_of_ble_eq_true rfl) (Nat.le_of_ble_eq_true rfl)
  have hh3 := q3.trans hh0
  have c4 : Steps p.tables e below (s₁.setTop (entryFrame m #[.ref a, .ref b, .int (Int32.ofNat o), .int (Int32.ofNat len), .null] 6)) (T3.setTop (mkF m 27 #[.val (.ref a), .val (.ref b), .val (.int (Int32.ofNat o)), .val (.int (Int32.ofNat len)), .val .null, .unset] [])) := (c2.trans (st3 _ (Steps.refl _))).trans (by
    refine XS.iloadN X3.here hexec rfl (hb hbytes d4) rfl ?_
    refine XS.ifYes X3.here hexec rfl (pc0 := 5) rfl (hb hbytes d5) rfl (i0_ne_t (nz32 (by omega) l0)) (by decide) rfl ?_
    exact Steps.refl _)
  obtain ⟨T5, X5, q5, st5⟩ := X3.sget hexec hown (wk W (.fieldLink "java/lang/String" 38 "java/lang/String" "COMPACT_STRINGS" "Z")) s1 (fun _ _ h => by rw [hh3]; exact h) (g := (mkF m 27 #[.val (.ref a), .val (.ref b), .val (.int (Int32.ofNat o)), .val (.int (Int32.ofNat len)), .val .null, .unset] [])) rfl (hb hbytes d27)
  have hh5 := q5.trans hh3
  have c6 : Steps p.tables e below (s₁.setTop (entryFrame m #[.ref a, .ref b, .int (Int32.ofNat o), .int (Int32.ofNat len), .null] 6)) (T5.setTop (mkF m 30 #[.val (.ref a), .val (.ref b), .val (.int (Int32.ofNat o)), .val (.int (Int32.ofNat len)), .val .null, .unset] [.int z])) := c4.trans (st5 _ (Steps.refl _))
  have c7 : Steps p.tables e below (s₁.setTop (entryFrame m #[.ref a, .ref b, .int (Int32.ofNat o), .int (Int32.ofNat len), .null] 6)) (T5.setTop (mkF m 36 #[.val (.ref a), .val (.ref b), .val (.int (Int32.ofNat o)), .val (.int (Int32.ofNat len)), .val .null, .unset] [.int (Int32.ofNat len), .int (Int32.ofNat o), .ref b])) := c6.trans (by
    refine XS.ifNo X5.here hexec rfl (hb hbytes d30) rfl (i0_eq_f hz) ?_
    refine XS.aloadN X5.here hexec rfl (hb hbytes d33) rfl rfl ?_
    refine XS.iloadN X5.here hexec rfl (hb hbytes d34) rfl ?_
    refine XS.iloadN X5.here hexec rfl (hb hbytes d35) rfl ?_
    exact Steps.refl _)
  obtain ⟨v8, T8, X8, E8, g8⟩ := X5.callS hexec (Cmp3.law l b A o len) hown (wks W (staticW "java/lang/String" 177 Cmp3.yN)) (wk W Cmp3.tab) (W := 0) (Nat.le_of_ble_eq_true rfl) (Nat.le_of_ble_eq_true rfl) (Nat.le_refl _) (by show 0 + len ≤ len; omega) (g := (mkF m 36 #[.val (.ref a), .val (.ref b), .val (.int (Int32.ofNat o)), .val (.int (Int32.ofNat len)), .val .null, .unset] [.int (Int32.ofNat len), .int (Int32.ofNat o), .ref b])) rfl (by rw [hml]; rfl) c7 (argsL := [.ref b, .int (Int32.ofNat o), .int (Int32.ofNat len)]) (rest := []) rfl rfl (by show 2 * 0 + 0 ≤ _; decide) (hb hbytes d36) (⟨rfl, hA.mv X5.warmed.alike hh5, l1, l2, hp⟩)
  obtain ⟨e8, z8⟩ := E8
  obtain ⟨rfl, N, n1, n2, n3, n4, n5, n6⟩ := NewArr.mv _ T5 s _ _ hh5.symm (Vm.Alike.refl _) rfl e8
  rw [hh5] at z8
  have hB1 := hB.keep X8.warmed.alike (n6 _ _ hB.1)
  have hne : s.heap.size ≠ a := (Nat.ne_of_lt (Array.getElem?_eq_some_iff.mp hB.1).1).symm
  have c9 : Steps p.tables e below (s₁.setTop (entryFrame m #[.ref a, .ref b, .int (Int32.ofNat o), .int (Int32.ofNat len), .null] 6)) (T8.setTop (mkF m 39 #[.val (.ref a), .val (.ref b), .val (.int (Int32.ofNat o)), .val (.int (Int32.ofNat len)), .val .null, .unset] [.ref s.heap.size])) := g8
  have c10 : Steps p.tables e below (s₁.setTop (entryFrame m #[.ref a, .ref b, .int (Int32.ofNat o), .int (Int32.ofNat len), .null] 6)) (T8.setTop (mkF m 45 #[.val (.ref a), .val (.ref b), .val (.int (Int32.ofNat o)), .val (.int (Int32.ofNat len)), .val .null, .val (.ref s.heap.size)] [.int (Int32.ofNat N.slots.size), .ref s.heap.size, .ref a])) := by
    have hc : Steps p.tables e below (s₁.setTop (entryFrame m #[.ref a, .ref b, .int (Int32.ofNat o), .int (Int32.ofNat len), .null] 6)) (T8.setTop (mkF m 45 #[.val (.ref a), .val (.ref b), .val (.int (Int32.ofNat o)), .val (.int (Int32.ofNat len)), .val .null, .val (.ref s.heap.size)] [.int (Int32.ofNat len), .ref s.heap.size, .ref a])) := c9.trans (by
      refine XS.astore X8.here hexec rfl (hb hbytes d39) rfl rfl rfl ?_
      refine XS.aloadN X8.here hexec rfl (hb hbytes d41) rfl rfl ?_
      refine XS.aload X8.here hexec rfl (hb hbytes d42) rfl rfl ?_
      refine XS.iloadN X8.here hexec rfl (hb hbytes d44) rfl ?_
      exact Steps.refl _)
    rw [n4]; exact hc
  obtain ⟨v11, T11, X11, E11, g11⟩ := X8.callS hexec (CodL.law l s.heap.size N) hown (wks W (staticW "java/lang/String" 47 CodL.yN)) (wk W CodL.tab) (W := 1) (Nat.le_of_ble_eq_true rfl) (Nat.le_of_ble_eq_true rfl) (Nat.le_refl _) (by show 0 + len + 0 ≤ len; omega) (g := (mkF m 45 #[.val (.ref a), .val (.ref b), .val (.int (Int32.ofNat o)), .val (.int (Int32.ofNat len)), .val .null, .val (.ref s.heap.size)] [.int (Int32.ofNat N.slots.size), .ref s.heap.size, .ref a])) rfl (by rw [hml]; rfl) c10 (argsL := [.ref s.heap.size, .int (Int32.ofNat N.slots.size)]) (rest := [.ref a]) rfl rfl (by show 2 * 0 + (1 + 0) ≤ _; decide) (hb hbytes d45) (⟨rfl, n1⟩)
  obtain ⟨rfl, q11⟩ := E11
  have hB11 := hB1.mv (X8.warmed.alike.symm.trans X11.warmed.alike) q11
  have c12 : Steps p.tables e below (s₁.setTop (entryFrame m #[.ref a, .ref b, .int (Int32.ofNat o), .int (Int32.ofNat len), .null] 6)) (T11.setTop (mkF m 48 #[.val (.ref a), .val (.ref b), .val (.int (Int32.ofNat o)), .val (.int (Int32.ofNat len)), .val .null, .val (.ref s.heap.size)] [.int 0, .ref a])) := g11
  obtain ⟨T13, X13, p13, bl13, sl13, st13⟩ := X11.finit hexec hown (wk W (.fieldLink "java/lang/String" 15 "java/lang/String" "coder" "B")) (Or.inr ⟨_, (wk W (.laysFinal "java/lang/String" "java/lang/String" "coder" "B"))⟩) (Or.inl ⟨rfl, hnm⟩) f2 (Or.inl rfl) hB11 (t := .byte) (by decide +kernel) rfl (g := (mkF m 48 #[.val (.ref a), .val (.ref b), .val (.int (Int32.ofNat o)), .val (.int (Int32.ofNat len)), .val .null, .val (.ref s.heap.size)] [.int 0, .ref a])) rfl (rest := []) rfl (hb hbytes d48)
  have c14 : Steps p.tables e below (s₁.setTop (entryFrame m #[.ref a, .ref b, .int (Int32.ofNat o), .int (Int32.ofNat len), .null] 6)) (T13.setTop (mkF m 54 #[.val (.ref a), .val (.ref b), .val (.int (Int32.ofNat o)), .val (.int (Int32.ofNat len)), .val .null, .val (.ref s.heap.size)] [.ref s.heap.size, .ref a])) := (c12.trans (st13 _ (Steps.refl _))).trans (by
    refine XS.aloadN X13.here hexec rfl (hb hbytes d51) rfl rfl ?_
    refine XS.aload X13.here hexec rfl (hb hbytes d52) rfl rfl ?_
    exact Steps.refl _)
  obtain ⟨T15, X15, p15, bl15, sl15, st15⟩ := X13.finit hexec hown (wk W (.fieldLink "java/lang/String" 9 "java/lang/String" "value" "[B")) (Or.inr ⟨_, (wk W (.laysFinal "java/lang/String" "java/lang/String" "value" "[B"))⟩) (Or.inl ⟨rfl, hnm⟩) f1 (Or.inl rfl) bl13 (t := (.array .byte)) (by decide +kernel) rfl (g := (mkF m 54 #[.val (.ref a), .val (.ref b), .val (.int (Int32.ofNat o)), .val (.int (Int32.ofNat len)), .val .null, .val (.ref s.heap.size)] [.ref s.heap.size, .ref a])) rfl (rest := []) rfl (hb hbytes d54)
  have c16 : Steps p.tables e below (s₁.setTop (entryFrame m #[.ref a, .ref b, .int (Int32.ofNat o), .int (Int32.ofNat len), .null] 6)) (T15.setTop (mkF m 57 #[.val (.ref a), .val (.ref b), .val (.int (Int32.ofNat o)), .val (.int (Int32.ofNat len)), .val .null, .val (.ref s.heap.size)] [])) := c14.trans (st15 _ (Steps.refl _))
  have ap := apart (Or.inr ⟨_, (wk W (.laysFinal "java/lang/String" "java/lang/String" "value" "[B"))⟩) (Or.inr ⟨_, (wk W (.laysFinal "java/lang/String" "java/lang/String" "coder" "B"))⟩) f1 f2 (t₁ := .array .byte) (t₂ := .byte) (by decide +kernel) (by decide +kernel) (by decide)
  have al := X8.warmed.alike.symm.trans X15.warmed.alike
  have n7 : T11.heap[s.heap.size]? = some N := by rw [q11]; exact n1.1
  exact ⟨T15, none, _, _, _, X15, by simp, rfl, by omega, (fun _ => rfl), ⟨rfl, _, N, bl15, ((Same.refl D _).set _ (by simp)).set _ (by simp), sl15, (Cell.slots_setSlot_ne _ ap).trans sl13, n1.keep al (p15.other hne (p13.other hne n7)), n2, by rw [al.findClass]; exact n3, n4, n5, fun y c h1 h2 => p15.other h1 (p13.other h1 (by rw [q11]; exact n6 y c h2)), by rw [p15.2.2, p13.2.2, q11]; exact z8⟩, fun fs hl => c16.trans (X15.returnOut hexec hret (hb hbytes d57) hl)⟩
end New4
namespace New1
def yN : MethodName := ⟨"java/lang/String", "<init>", "([C)V"⟩
abbrev yB : ByteArray := jdk_42_method_3_code
theorem d0 : decode yB 0 = .ok (.aload_n 0, 1) := by decide +kernel
theorem d1 : decode yB 1 = .ok (.aload_n 1, 1) := by decide +kernel
theorem d2 : decode yB 2 = .ok (.iconst 0, 1) := by decide +kernel
theorem d3 : decode yB 3 = .ok (.aload_n 1, 1) := by decide +kernel
theorem d4 : decode yB 4 = .ok (.arraylength, 1) := by decide +kernel
theorem d5 : decode yB 5 = .ok (.aconst_null, 1) := by decide +kernel
theorem d6 : decode yB 6 = .ok (.invokespecial 27, 3) := by decide +kernel
theorem d9 : decode yB 9 = .ok (.return_, 1) := by decide +kernel
def site : List Cond := [New4.tab] ++ initW "java/lang/String" 27 New4.yN
def tab : Cond := tabOf yN yB 2 none site
def P (a : Addr) (D : Cell) (fV fC : Field) (b : Addr) (A : Cell) (z : Int32) (args : Array Value) (s : State) : Prop := args = #[.ref a, .ref b] ∧ Blank "java/lang/String" a D s ∧ Found "java/lang/String" "value" "[B" fV s ∧ Found "java/lang/String" "coder" "B" fC s ∧ Ch b A s ∧ StaticIs s "java/lang/String" "COMPACT_STRINGS" "Z" (.int z) ∧ ¬ z = 0 ∧ 0 < A.slots.size ∧ A.slots.size ≤ 536870912 ∧ ∀ i, i < A.slots.size → ¬ 255 < cv A i
def E (a : Addr) (D : Cell) (fV fC : Field) (A : Cell) (r : Option Value) (s u : State) : Prop := Got a D fV fC A 0 A.slots.size r s u
/-- new String(chars), not empty, no char above 255: a Latin-1 String of their low bytes -/
theorem law (l : Launch) (a : Addr) (D : Cell) (fV fC : Field) (b : Addr) (A : Cell) (z : Int32) : Law l yN 2 1 3 52 yB 2 none site (P a D fV fC b A z) (E a D fV fC A) [⟨a, fC.slot⟩, ⟨a, fV.slot⟩] 1 A.slots.size := by
  refine Law.of_walk (plainFor_of_name (by decide +kernel)) (by decide +kernel) (by decide +kernel) (by decide) (fun _ _ h => by rw [h.1]; rfl) (fun _ U U' hal hh h => ⟨h.1, h.2.1.mv hal hh, h.2.2.1.al hal, h.2.2.2.1.al hal, h.2.2.2.2.1.mv hal hh, h.2.2.2.2.2.1.there hal hh, h.2.2.2.2.2.2⟩) (fun r U U' V V' h1 hal h2 h => Got.mv r U U' V V' h1 hal h2 h) ?_
  intro p e s m args below meth c s₁ X0 hexec hbytes hml hret hlk hnm hown hh0 W hP
  obtain ⟨rfl, hB, f1, f2, hA, s1, hz, l0, l2, hp⟩ := hP
  have c1 : Steps p.tables e below (s₁.setTop (entryFrame m #[.ref a, .ref b] 2)) (s₁.setTop (mkF m 0 #[.val (.ref a), .val (.ref b)] [])) := entry rfl
  have c2 : Steps p.tables e below (s₁.setTop (entryFrame m #[.ref a, .ref b] 2)) (s₁.setTop (mkF m 6 #[.val (.ref a), .val (.ref b)] [.null, .int (Int32.ofNat A.slots.size), .int 0, .ref b, .ref a])) := c1.trans (by
    refine XS.aloadN X0.here hexec rfl (hb hbytes d0) rfl rfl ?_
    refine XS.aloadN X0.here hexec rfl (hb hbytes d1) rfl rfl ?_
    refine iconstV X0.here hexec rfl 0 (hb hbytes d2) (by decide) ?_
    refine XS.aloadN X0.here hexec rfl (hb hbytes d3) rfl rfl ?_
    refine X0.alen hexec (hA.1.mv X0.warmed.alike hh0) rfl rfl (hb hbytes d4) ?_
    refine XS.aconstNull X0.here hexec rfl (hb hbytes d5) ?_
    exact Steps.refl _)
  obtain ⟨v3, T3, X3, E3, g3⟩ := X0.callN hexec (New4.law l a D fV fC b A z 0 A.slots.size) rfl hown (wks W (initW "java/lang/String" 27 New4.yN)) (W New4.tab (by simp only [site, List.mem_cons, List.mem_append, true_or, or_true])) (W := 0) (Nat.le_of_ble_eq_true rfl) (Nat.le_of_ble_eq_true rfl) (Nat.le_refl _) (by show 0 + A.slots.size ≤ A.slots.size; omega) (g := (mkF m 6 #[.val (.ref a), .val (.ref b)] [.null, .int (Int32.ofNat A.slots.size), .int (Int32.ofNat 0), .ref b, .ref a])) rfl (by rw [hml]; rfl) c2 (argsL := [.ref b, .int (Int32.ofNat 0), .int (Int32.ofNat A.slots.size), .null]) (rest := []) rfl rfl (by show 2 * 0 + 0 ≤ _; decide) (hb hbytes d6) (⟨rfl, hB.mv X0.warmed.alike hh0, f1.al X0.warmed.alike, f2.al X0.warmed.alike, hA.mv X0.warmed.alike hh0, s1.there X0.warmed.alike hh0, hz, l0, by omega, l2, fun i hi => by rw [Nat.zero_add]; exact hp i hi⟩)
  have e0 := Got.mv _ s₁ s _ _ hh0.symm (Vm.Alike.refl _) rfl E3
  obtain rfl := e0.1
  have c4 : Steps p.tables e below (s₁.setTop (entryFrame m #[.ref a, .ref b] 2)) (T3.setTop (mkF m 9 #[.val (.ref a), .val (.ref b)] [])) := g3
  exact ⟨T3, none, _, _, _, X3, by simp, rfl, by omega, (fun _ => rfl), e0, fun fs hl => c4.trans (X3.returnOut hexec hret (hb hbytes d9) hl)⟩
theorem pays {l : Launch} {R : Room} {p : Program} {e : Env} {below : List Frame} {s : State} {sargs : Array Value} {len W : Nat} (a : Addr) (D : Cell) (fV fC : Field) (b : Addr) (A : Cell) (z : Int32) (htab : tab.before sargs s = true) (hfr : 4 ≤ R.frames) (hlo : W + 65 ≤ R.locals) :
    Back l R p e below s sargs yN len W (fun A₁ a₁ => A₁.cells + 1 ≤ R.cells ∧ A₁.slots + A.slots.size ≤ R.slots ∧ P a D fV fC b A z a₁ A₁.U) (fun A₁ _ v₁ B₁ => E a D fV fC A v₁ A₁.U B₁.U ∧ B₁.locs = A₁.locs ++ [⟨a, fC.slot⟩, ⟨a, fV.slot⟩] ∧ B₁.cells = A₁.cells + 1 ∧ B₁.slots = A₁.slots + A.slots.size) :=
  (law l a D fV fC b A z).pays htab hfr (by omega)
end New1
end StrChars
namespace StrChars.Road
open Jvm Sem ClassFile Op Lib Jvm.Stand Jvm.Free Jvm.Free.XT
open Jvm.Lib.Cold (StaticIs)
abbrev ST : String := "java/lang/String"
/-- every table word that New1's law asks, flat -/
abbrev words : List Jvm.Cond := [.code New1.yN New1.yB 2 none, .initialized ST, .methodLink ST 27 New4.yN, .instanceMethod New4.yN,
  .code New4.yN New4.yB 6 none, .fieldLink ST 38 ST "COMPACT_STRINGS" "Z", .laysFinal ST ST "value" "[B", .fieldLink ST 9 ST "value" "[B", .laysFinal ST ST "coder" "B", .fieldLink ST 15 ST "coder" "B",
  .methodLink ST 1 Lib.objectInit, .instanceMethod Lib.objectInit, .code Lib.objectInit ⟨#[0xb1]⟩ 1 none, .methodLink ST 177 Cmp3.yN, .static Cmp3.yN, .methodLink ST 47 CodL.yN, .static CodL.yN,
  .code Cmp3.yN Cmp3.yB 6 (some (.array .byte)), .initialized U16, .arrayClass .byte, .methodLink U16 115 Cmp5.yN, .static Cmp5.yN, .code Cmp5.yN Cmp5.yB 7 (some .int), .code CodL.yN CodL.yB 2 (some .byte)]
theorem tab_of {a : Array Value} {s : State} (h : ∀ w ∈ words, w.before a s = true) : New1.tab.before a s = true := by
  have h5 : Cmp5.tab.before a s = true := unparts (wk h (.code Cmp5.yN Cmp5.yB 7 (some .int))) (wks h (.initialized Cmp5.yN.cls :: Cmp5.site))
  have hc : CodL.tab.before a s = true := unparts (wk h (.code CodL.yN CodL.yB 2 (some .byte))) (wks h (.initialized CodL.yN.cls :: CodL.site))
  have q5 : ∀ w ∈ Cmp5.tab :: words, w.before a s = true := fun w hw => (List.mem_cons.mp hw).elim (fun e => e ▸ h5) (h w)
  have h3 : Cmp3.tab.before a s = true := unparts (wk q5 (.code Cmp3.yN Cmp3.yB 6 (some (.array .byte)))) (wks q5 (.initialized Cmp3.yN.cls :: Cmp3.site))
  have q3 : ∀ w ∈ Cmp3.tab :: CodL.tab :: words, w.before a s = true := fun w hw => (List.mem_cons.mp hw).elim (fun e => e ▸ h3) fun hw => (List.mem_cons.mp hw).elim (fun e => e ▸ hc) (h w)
  have h4 : New4.tab.before a s = true := unparts (wk q3 (.code New4.yN New4.yB 6 none)) (wks q3 (.initialized New4.yN.cls :: New4.site))
  have q4 : ∀ w ∈ New4.tab :: words, w.before a s = true := fun w hw => (List.mem_cons.mp hw).elim (fun e => e ▸ h4) (h w)
  exact unparts (wk q4 (.code New1.yN New1.yB 2 none)) (wks q4 (.initialized New1.yN.cls :: New1.site))
/-- the words ride from the start Z to the walk's own state -/
theorem moved {Z s : State} {a0 args : Array Value} (hZ : Z.Warmed39 s.vm) (hw : ∀ d ∈ words, d.before a0 Z = true) : ∀ d ∈ words, d.before args s = true := fun d hd => by
  have q := hw d hd
  have t : ∀ d ∈ words, d = .arrayClass .byte ∨ (d.onTables && d.keepsFace) = true := by decide +kernel
  rcases t d hd with rfl | t
  · exact RoadKit.mvA hZ q
  · exact RoadKit.mv hZ q t
/-- WHAT COMES BACK, over the tables of the start Z: h the heap at the call, h' behind it -/
def Q (Z : State) (x : Addr) (A : Cell) (h : Heap) (v : Option Value) (h' : Heap) (L : List Loc) : Prop := v = none ∧ (∀ y ∈ L, y.base = x) ∧ RoadKit.Keep h h' [x] ∧ h'.size = h.size + 1 ∧ RoadKit.Exa Z h' x ST ∧ RoadKit.Fld Z h' x ST "value" "[B" (.ref h.size) ∧ RoadKit.Fld Z h' x ST "coder" "B" (.int 0) ∧
  (∃ V : Cell, RoadKit.Arr Z h' h.size V .byte ∧ V.vm = .none ∧ Z.vm.findClass "[B" = some V.cls ∧ V.slots.size = A.slots.size ∧ ∀ j, j < A.slots.size → V.slots[j]? = some (.int (lo8 (cv A j)))) ∧
  ∀ (O n d : String) (w : Value), RoadKit.Fld Z h x O n d w → RoadKit.slotOf Z O n d ≠ RoadKit.slotOf Z ST "value" "[B" → RoadKit.slotOf Z O n d ≠ RoadKit.slotOf Z ST "coder" "B" → RoadKit.Fld Z h' x O n d w
/-- **new String(chars) AT A CALL, IN THE ROAD'S FORM**: for specialBack behind newO: x the fresh String, b the char[] with the cell A -/
theorem back {p : Program} {l : Launch} {e : Env} {R : Room} {s : State} {args : Array Value} {below : List Frame} {len W : Nat} {Z : State} {a0 : Array Value} {h : Heap} (hZ : Z.Warmed39 s.vm) (hw : ∀ d ∈ words, d.before a0 Z = true) {kI : Nat} (wi : (Jvm.Cond.instantiable ST kI).before a0 Z = true)
    {x b : Addr} {A : Cell} {z : Int32} {v0 c0 : Value} (E : RoadKit.Exa Z h x ST) (V : RoadKit.Fld Z h x ST "value" "[B" v0) (C : RoadKit.Fld Z h x ST "coder" "B" c0) (K : RoadKit.Arr Z h b A .char) (hty : Typed .char A) (S : RoadKit.Sta Z h ST "COMPACT_STRINGS" "Z" (.int z)) (hz : ¬ z = 0)
    (l0 : 0 < A.slots.size) (l2 : A.slots.size ≤ 536870912) (hp : ∀ i, i < A.slots.size → ¬ 255 < cv A i) (hfr : 4 ≤ R.frames) (hlo : W + 65 ≤ R.locals) :
    Back l R p e below s args New1.yN len W (fun P a => a = #[.ref x, .ref b] ∧ P.U.heap = h ∧ P.cells + 1 ≤ R.cells ∧ P.slots + A.slots.size ≤ R.slots)
      (fun P _ v B => ∃ L, Q Z x A h v B.U.heap L ∧ B.locs = P.locs ++ L ∧ B.cells = P.cells + 1 ∧ B.slots = P.slots + A.slots.size) := by
  intro m meth c P g ig mk a X hg hsize hdg hW hn hp'
  obtain ⟨rfl, rfl, r1, r2⟩ := hp'
  have al : Z.vm.Alike P.U.vm := hZ.alike.trans X.warmed.alike
  obtain ⟨D, cfV, kV, iV, fV, hD, gV, stV, knV, obV, asV, slV⟩ := id V
  obtain ⟨D', cfC, kC, iC, fC, hD', gC, stC, -, -, asC, slC⟩ := id C
  cases hD.symm.trans hD'
  obtain ⟨D2, kD, e1, e2, e3, e4, e5⟩ := id E
  cases hD.symm.trans e1
  obtain ⟨c2, k2, i1, i2, i3, -⟩ := Cond.instantiable_spec wi
  cases e2.symm.trans i1
  cases e3.symm.trans i2
  obtain ⟨kU, u1, u2⟩ := al.2.2 _ _ e3
  have hB : Blank ST x D P.U := ⟨hD, ⟨knV, fun q hq => by rw [hq] at obV; cases obV⟩, by rw [al.findClass]; exact e2, kU, u1, by rw [u2]; exact i3, by rw [u2]; exact e5 i3⟩
  have F1 : Found ST "value" "[B" fV P.U := ⟨SBG.found_only al ⟨cfV, kV, iV, gV⟩, stV⟩
  have F2 : Found ST "coder" "B" fC P.U := ⟨SBG.found_only al ⟨cfC, kC, iC, gC⟩, stC⟩
  have hA : Ch b A P.U := ⟨⟨K.1, State.isArrayOf_alike al K.2.1, K.2.2, by omega⟩, hty⟩
  have hS : StaticIs P.U ST "COMPACT_STRINGS" "Z" (.int z) := by
    obtain ⟨cfS, iS, kS, fS, st, cS, t1, t2, t3, t4, t5, t6, t7⟩ := S
    exact StaticIs.there (s := { Z with heap := P.U.heap }) ⟨cfS, iS, kS, fS, st, cS, t1, t2, t3, t4, t5, (fun q => by rw [q] at t6; cases t6), t7⟩ al rfl
  obtain ⟨v, B, X', ⟨⟨hv, E', V', q1, q2, q3, q4, q5, q6, q7, q8, q9, q10, q11⟩, hl, hc, hs⟩, st⟩ := New1.pays x D fV fC b A z (tab_of (moved hZ hw)) hfr hlo m meth c P g ig mk _ X hg hsize hdg hW hn ⟨r1, r2, rfl, hB, F1, F2, hA, hS, hz, l0, l2, hp⟩
  have al' : Z.vm.Alike B.U.vm := hZ.alike.trans X'.warmed.alike
  have hsz : E'.slots.size = D.slots.size := by
    obtain ⟨-, -, -, kB, w1, w2, w3⟩ := q1
    obtain ⟨kB', y1, y2⟩ := al'.2.2 _ _ e3
    rw [q2.2.1] at w1
    cases w1.symm.trans y1
    rw [w3, e5 i3, y2]
  refine ⟨v, B, X', ⟨_, ⟨hv, ?_, ⟨by omega, fun y cy hy hn' => q10 y cy (by simpa using hn') hy, fun y cy hy => ?_⟩, q11, ⟨E', _, q1.1, by rw [q2.2.1]; exact e2, by rw [q2.2.1]; exact e3, by rw [q2.1]; exact obV, fun _ => by rw [hsz]; exact e5 i3⟩,
    ⟨E', cfV, kV, iV, fV, q1.1, gV, stV, by rw [q2.1]; exact knV, by rw [q2.1]; exact obV, by rw [q2.2.1]; exact asV, q3⟩, ⟨E', cfC, kC, iC, fC, q1.1, gC, stC, by rw [q2.1]; exact knV, by rw [q2.1]; exact obV, by rw [q2.2.1]; exact asC, q4⟩,
    ⟨V', ⟨q5.1, State.isArrayOf_alike al'.symm q5.2.1, q5.2.2.1⟩, q6, by rw [← al'.findClass]; exact q7, q8, fun j hj => by have := q9 j hj; rwa [Nat.zero_add] at this⟩, fun O n d w F n1 n2 => ?_⟩, hl, hc, hs⟩, st⟩
  · intro y hy
    simp only [List.mem_cons, List.not_mem_nil, or_false] at hy
    rcases hy with rfl | rfl <;> rfl
  · by_cases q : y = x
    · subst q
      cases hD.symm.trans hy
      exact ⟨E', q1.1, q2.2.1, q2.1, hsz⟩
    · exact ⟨cy, q10 y cy q hy, rfl, rfl, rfl⟩
  · obtain ⟨D3, cf, k, i, f, g1, g2, g3, g4, g5, g6, g7⟩ := F
    cases hD.symm.trans g1
    simp only [RoadKit.slotOf, g2, gV, gC, Option.map_some, Option.getD_some] at n1 n2
    exact ⟨E', cf, k, i, f, q1.1, g2, g3, by rw [q2.1]; exact g4, by rw [q2.1]; exact g5, by rw [q2.2.1]; exact g6, by rw [q2.2.2 f.slot (by simp [n1, n2])]; exact g7⟩
end StrChars.Road
namespace StrChars.Road
open Jvm Sem ClassFile Op Lib Jvm.Stand Jvm.Free Jvm.Free.XT
/-- WHAT COMES BACK, the byte[] as a list of values -/
def QA (Z : State) (x : Addr) (zn : Int32) (cs : List Int32) (h : Heap) (v : Option Value) (h' : Heap) (L : List Loc) : Prop := v = none ∧ (∀ y ∈ L, y.base = x) ∧ RoadKit.Keep h h' [x] ∧ h'.size = h.size + 1 ∧ RoadKit.Exa Z h' x ST ∧ RoadKit.Fld Z h' x ST "value" "[B" (.ref h.size) ∧ RoadKit.Fld Z h' x ST "coder" "B" (.int 0) ∧
  (∃ kb, Z.vm.findClass "[B" = some kb ∧ RoadKit.Arv Z h' h.size kb .byte zn (cs.map fun c => .int (lo8 c)) (.int 0)) ∧
  ∀ (O n d : String) (w : Value), RoadKit.Fld Z h x O n d w → RoadKit.slotOf Z O n d ≠ RoadKit.slotOf Z ST "value" "[B" → RoadKit.slotOf Z O n d ≠ RoadKit.slotOf Z ST "coder" "B" → RoadKit.Fld Z h' x O n d w
/-- **new String(chars) AT A CALL, THE ARRAYS AS LISTS**: the char[] at b holds cs, not empty, no char above 255 -/
theorem backArv {p : Program} {l : Launch} {e : Env} {R : Room} {s : State} {args : Array Value} {below : List Frame} {len W : Nat} {Z : State} {a0 : Array Value} {h : Heap} (hZ : Z.Warmed39 s.vm) (hw : ∀ d ∈ words, d.before a0 Z = true) {kI : Nat} (wi : (Jvm.Cond.instantiable ST kI).before a0 Z = true)
    {x b : Addr} {k : ClassId} {zn z : Int32} {cs : List Int32} {dv v0 c0 : Value} (E : RoadKit.Exa Z h x ST) (V : RoadKit.Fld Z h x ST "value" "[B" v0) (C : RoadKit.Fld Z h x ST "coder" "B" c0) (K : RoadKit.Arv Z h b k .char zn (cs.map Value.int) dv) (S : RoadKit.Sta Z h ST "COMPACT_STRINGS" "Z" (.int z)) (hz : ¬ z = 0)
    (hlen : zn.toNatClampNeg = cs.length) (h0 : 0 < cs.length) (hbig : cs.length ≤ 536870912) (hall : ∀ c ∈ cs, ¬ 255 < c) (hfr : 4 ≤ R.frames) (hlo : W + 65 ≤ R.locals) :
    Back l R p e below s args New1.yN len W (fun P a => a = #[.ref x, .ref b] ∧ P.U.heap = h ∧ P.cells + 1 ≤ R.cells ∧ P.slots + cs.length ≤ R.slots)
      (fun P _ v B => ∃ L, QA Z x zn cs h v B.U.heap L ∧ B.locs = P.locs ++ L ∧ B.cells = P.cells + 1 ∧ B.slots = P.slots + cs.length) := by
  obtain ⟨A, K1, K2, K3, K4, K5, K6⟩ := K
  have e : A.slots.size = cs.length := K3.trans hlen
  have hat : ∀ (i : Nat) (hi : i < cs.length), A.slots[i]? = some (.int cs[i]) := fun i hi => by rw [K5 i (by omega)]; simp [List.getD_eq_getElem?_getD, hi]
  have hcv : ∀ (i : Nat) (hi : i < cs.length), cv A i = cs[i] := fun i hi => by unfold cv; rw [hat i hi]
  have hty : Typed .char A := fun i v hv => by
    have hi : i < A.slots.size := (Array.getElem?_eq_some_iff.mp hv).1
    have q := K5 i hi
    rw [hv] at q
    rw [Option.some.inj q]
    exact K6 i hi
  refine Back.mono (back hZ hw wi E V C K1 hty S hz (by omega) (by omega) (fun i hi => by rw [hcv i (by omega)]; exact hall _ (List.getElem_mem _)) hfr hlo) (fun P a hp => ⟨hp.1, hp.2.1, hp.2.2.1, by rw [e]; exact hp.2.2.2⟩) (fun P a v B hp hq => ?_)
  obtain ⟨L, ⟨q1, q2, q3, q4, q5, q6, q7, ⟨V', v1, v2, v3, v4, v5⟩, q9⟩, hl, hc, hs⟩ := hq
  refine ⟨L, ⟨q1, q2, q3, q4, q5, q6, q7, ⟨V'.cls, v3, V', v1, rfl, by rw [v4, e, hlen], K4, fun i hi => ?_, fun i hi => ?_⟩, q9⟩, hl, hc, by rw [hs, e]⟩
  · have hi' : i < cs.length := by omega
    rw [v5 i (by omega), hcv i hi']; simp [List.getD_eq_getElem?_getD, hi']
  · have hi' : i < cs.length := by omega
    simp only [List.getD_eq_getElem?_getD, List.getElem?_map, List.getElem?_eq_getElem hi', Option.map_some, Option.getD_some]
    exact fits_lo8 _
end StrChars.Road
namespace StrChars.Road
open Jvm Sem ClassFile Op Lib Jvm.Stand Jvm.Free Jvm.Free.XT
/-- WHAT COMES BACK, in the writer's own shape -/
def QV (Z : State) (x : Addr) (N : Int32) (bs : List Int32) (h : Heap) (n0 : Nat) (v : Option Value) (h' : Heap) (L : List Loc) : Prop := v = none ∧ RoadKit.Fr n0 L ∧ RoadKit.Keep h h' [x] ∧ RoadKit.Exa Z h' x ST ∧ RoadKit.Fld Z h' x ST "coder" "B" (.int 0) ∧
  ∃ (t : Addr) (kb : ClassId), n0 ≤ t ∧ h.size ≤ t ∧ ¬ t = x ∧ RoadKit.Fld Z h' x ST "value" "[B" (.ref t) ∧ RoadKit.Arv Z h' t kb .byte N (bs.map Value.int) (.int 0)
/-- **new String(chars) AT A CALL, FOR THE WRITER**: a char[] of n known ints, each 0 to 255 -/
theorem backV {p : Program} {l : Launch} {e : Env} {R : Room} {s : State} {args : Array Value} {below : List Frame} {len W : Nat} {Z : State} {a0 : Array Value} {h : Heap} (hZ : Z.Warmed39 s.vm) (hw : ∀ d ∈ words, d.before a0 Z = true) {kI : Nat} (wi : (Jvm.Cond.instantiable ST kI).before a0 Z = true)
    {x b : Addr} {kC : ClassId} {cs bs : List Int32} {d v0 c0 : Value} {z N : Int32} {n n0 : Nat} (hx0 : n0 ≤ x) (hh0 : n0 ≤ h.size) (E : RoadKit.Exa Z h x ST) (V : RoadKit.Fld Z h x ST "value" "[B" v0) (C : RoadKit.Fld Z h x ST "coder" "B" c0) (K : RoadKit.Arv Z h b kC .char N (cs.map Value.int) d) (S : RoadKit.Sta Z h ST "COMPACT_STRINGS" "Z" (.int z)) (hz : ¬ z = 0)
    (hn : cs.length = n) (hN : N = Int32.ofNat n) (l0 : 0 < n) (l2 : n ≤ 4000) (hp : ∀ c ∈ cs, ¬ c < 0 ∧ ¬ (255 : Int32) < c) (hb : bs = cs.map (fun c => c.toInt8.toInt32)) (hfr : 4 ≤ R.frames) (hlo : W + 65 ≤ R.locals) :
    Back l R p e below s args (⟨"java/lang/String", "<init>", "([C)V"⟩ : MethodName) len W (fun P a => a = #[.ref x, .ref b] ∧ P.U.heap = h ∧ P.cells + 1 ≤ R.cells ∧ P.slots + n ≤ R.slots)
      (fun P _ v B => ∃ L, QV Z x N bs h n0 v B.U.heap L ∧ B.locs = P.locs ++ L ∧ B.cells = P.cells + 1 ∧ B.slots = P.slots + n) := by
  subst hn hN hb
  refine Back.mono (backArv hZ hw wi E V C K S hz (n32 (by omega)) l0 (by omega) (fun c hc => (hp c hc).2) hfr hlo) (fun P a hp => hp) (fun P a v B hp hq => ?_)
  obtain ⟨L, ⟨q1, q2, q3, q4, q5, q6, q7, ⟨kb, v1, v2⟩, q9⟩, hl, hc, hs⟩ := hq
  exact ⟨L, ⟨q1, fun y hy => by rw [q2 y hy]; exact hx0, q3, q5, q7, h.size, kb, hh0, Nat.le_refl _, Nat.ne_of_gt E.lt, q6, by rw [List.map_map]; exact v2⟩, hl, hc, hs⟩
end StrChars.Road
end Jvm.Pilot.@@N@@
namespace Jvm.Pilot.@@N@@
open Jvm Jvm.ClassFile Sem Op Lib Jvm.Free Jvm.Stand Jvm.LawKit Jvm.RoadKit Bundle Jvm.Pilot.@@N@@.Jvm.D
def own_Done (p : Program) (e : Env) (below : List Frame) (P : Outcome → State → Prop) (S : State) : Prop := ∃ s₂ o, Steps p.tables e below S s₂ ∧ s₂.status = .running ∧ Ended s₂ below o ∧ P o s₂
section Own
variable {p : Program} {e : Env} {below : List Frame} {P : Outcome → State → Prop} {S S' : State}
theorem own_open (d : own_Done p e below P S) : ∃ s₂ o, Steps p.tables e below S s₂ ∧ s₂.status = .running ∧ Ended s₂ below o ∧ P o s₂ := d
theorem own_via (k : ∀ t, Steps p.tables e below S' t → Steps p.tables e below S t) (d : own_Done p e below P S') : own_Done p e below P S := by
  obtain ⟨s₂, o, h1, h2⟩ := d
  exact ⟨s₂, o, k _ h1, h2⟩
theorem own_tr (k : Steps p.tables e below S S') (d : own_Done p e below P S') : own_Done p e below P S := own_via (fun _ h => k.trans h) d
theorem own_ret {l : Launch} {R : Room} {s : State} {m : MethodId} {args : Array Value} {meth : Method} {c : Code} {T : State} {locs : List Loc} {cells slots : Nat} {Q : Option Value → Heap → List Loc → Prop} {C N : Nat} (X : Stand p l e R s m args below meth c T locs cells slots) {v : Option Value} (hv : meth.sig.returnType = none → v = none) (hlocks : meth.locks = false) (hq : Q v T.heap locs) (hc : cells ≤ C) (hs : slots ≤ N)
    (k : ∀ fs, (∀ (f : JFrame) (acts : List Action), f.method = m → f.locked = none → f.entered = [] → (doReturn e (T.setTop f) acts v).1 = T.setFrames fs) → Steps p.tables e below S (T.setFrames fs)) :
    own_Done p e below (fun o U' => ∃ v L, o = .returned v ∧ Q v U'.heap L ∧ FrameEnd s o U' L C N) S := by
  obtain ⟨fs, hr, hrun, hended, hW, hsame⟩ := X.leave hv hlocks
  exact ⟨_, _, k fs hr, hrun, hended, v, locs, rfl, hq, ⟨_, rfl⟩, hW, hsame.mono hc hs⟩
theorem own_nface {args : Array Value} {s : State} {C : String} {y z : MethodName} (hsel : (Cond.selects C y y).before args s = true) (e : z.cls = y.cls) : NotFace s z := fun r0 h0 => by
  obtain ⟨c2, r2, m2, q1, q2, q3, q4, kP, hkP, hkPi⟩ := Cond.selects_spec hsel
  have e1 := findClass_of_methodNamed h0
  have e2 := findClass_of_methodNamed q3
  rw [e] at e1
  have e3 : r0.cls = m2.cls := Option.some.inj (e1.symm.trans e2)
  exact ⟨kP, by rw [e3]; exact hkP, hkPi⟩
theorem own_sameM {args : Array Value} {s : State} {y : MethodName} (h1 : (Cond.instanceMethod y).before args s = true) (hnf : NotFace s y) (hy : y.cls ≠ "java/lang/invoke/MethodHandle" ∧ y.cls ≠ "java/lang/invoke/VarHandle") : (Cond.sameMethod y.cls y.cls y.name y.desc).before args s = true := by
  obtain ⟨mk, meth, hn, hm, -, -⟩ := Cond.instanceMethod_spec h1
  have e1 := findClass_of_methodNamed hn
  have e2 := State.methodFound?_of_named hn hy
  obtain ⟨k, hk, hi⟩ := hnf _ hn
  have e3 : s.methodNamed? ⟨y.cls, y.name, y.desc⟩ = some mk := hn
  simp [Cond.before, Cond.holds, Cond.value, e1, e2, e3, hk, hi]
theorem own_declares {args : Array Value} {s : State} {y : MethodName} {bytes : ByteArray} {maxL : Nat} {ret : Option FieldType} (h1 : (Cond.instanceMethod y).before args s = true) (h2 : (Cond.code y bytes maxL ret).before args s = true) : (Cond.declares y).before args s = true := by
  obtain ⟨mk, meth, hn, hm, hst, -⟩ := Cond.instanceMethod_spec h1
  obtain ⟨meth', c, hm', -, -, -, -, -, -, hsig⟩ := Cond.code_spec hn h2
  cases hm.symm.trans hm'
  simp [Cond.before, Cond.holds, Cond.value, hn, hm, hst, hsig]
theorem own_ltA {a : Addr} {n : Nat} (h : n > a) : a < n := h
theorem own_shr0 (x : Int32) : x >>> ((0 : Int32) &&& 31) = x := by rw [show ((0 : Int32) &&& 31) = 0 from by decide]; simp
theorem own_shl0 (x : Int32) : x <<< ((0 : Int32) &&& 31) = x := by rw [show ((0 : Int32) &&& 31) = 0 from by decide]; simp
theorem own_sub0 (x : Int32) : x - (0 : Int32) = x := by simp
abbrev own_cp (vd vs : List Value) (dp sp nn : Int32) : List Value := vd.take dp.toNatClampNeg ++ ((List.range nn.toNatClampNeg).map fun i => vs.getD (sp.toNatClampNeg + i) (.int (0 : Int32))) ++ vd.drop (dp.toNatClampNeg + nn.toNatClampNeg)
theorem own_inst {Z : State} {h : Heap} {a : Addr} {C own K : String} {idx : Nat} {a0 : Array Value} {d : ClassId} (E : Exa Z h a C) (w : (Cond.classLink own idx K).before a0 Z = true) (hd : Z.vm.findClass own = some d) : Ins Z h a K true ∨ ∃ c t, Z.vm.findClass C = some c ∧ Z.vm.findClass K = some t ∧ Z.vm.assignable c t = false := by
  obtain ⟨cell, k, h1, h2, h3, h4, h5⟩ := E
  obtain ⟨cT, hT, -⟩ := Cond.classLink_spec hd w {} rfl
  cases hb : Z.vm.assignable cell.cls cT
  · exact Or.inr ⟨cell.cls, cT, h2, hT, hb⟩
  · exact Or.inl ⟨cell, cT, h1, hT, by simp [h4, hb]⟩
end Own
abbrev mt0 : MethodName := (⟨"java/lang/Record", "<init>", "()V"⟩ : MethodName)
theorem pn_java_lang_Record : plainName "java/lang/Record" = true := by first | (simp [plainName, overriddenIn]; done) | decide +kernel
theorem ef_own_rec (m : MethodId) (x0 : Addr) : entryFrame m #[(.ref x0)] 1 = mkF m 0 #[.val (.ref x0)] [] := by first | (simp [entryFrame, mkF, argsToLocals, Value.category]; done) | rfl
theorem d12_0 : decode jdk_30_method_1_code 0 = .ok (.aload_n 0, 1) := by decide +kernel
theorem d12_1 : decode jdk_30_method_1_code 1 = .ok (.invokespecial 1, 3) := by decide +kernel
theorem wd56 {Z : State} {a0 : Array Value} (hw : ∀ d ∈ tables_1, d.before a0 Z = true) : ((Jvm.Cond.methodLink "java/lang/Record" (1 : Nat) ({ cls := "java/lang/Object", name := "<init>", desc := "()V" } : Jvm.MethodName)) : Jvm.Cond).before a0 Z = true := hw _ (List.mem_of_getElem? (i := 56) rfl)
theorem wd13 {Z : State} {a0 : Array Value} (hw : ∀ d ∈ tables_1, d.before a0 Z = true) : ((Jvm.Cond.instanceMethod ({ cls := "java/lang/Object", name := "<init>", desc := "()V" } : Jvm.MethodName)) : Jvm.Cond).before a0 Z = true := hw _ (List.mem_of_getElem? (i := 13) rfl)
theorem wd14 {Z : State} {a0 : Array Value} (hw : ∀ d ∈ tables_1, d.before a0 Z = true) : ((Jvm.Cond.code ({ cls := "java/lang/Object", name := "<init>", desc := "()V" } : Jvm.MethodName) object_method_1_code (1 : Nat) (Option.none : Option Jvm.ClassFile.FieldType)) : Jvm.Cond).before a0 Z = true := hw _ (List.mem_of_getElem? (i := 14) rfl)
theorem d12_4 : decode jdk_30_method_1_code 4 = .ok (.return_, 1) := by decide +kernel
abbrev mt1 : MethodName := (⟨"java/lang/StringLatin1", "canEncode", "(C)Z"⟩ : MethodName)
theorem pn_java_lang_StringLatin1 : plainName "java/lang/StringLatin1" = true := by first | (simp [plainName, overriddenIn]; done) | decide +kernel
theorem ef_own_canEnc (m : MethodId) (x0 : Int32) : entryFrame m #[(.int x0)] 1 = mkF m 0 #[.val (.int x0)] [] := by first | (simp [entryFrame, mkF, argsToLocals, Value.category]; done) | rfl
theorem d8_0 : decode jdk_43_method_3_code 0 = .ok (.iload_n 0, 1) := by decide +kernel
theorem d8_1 : decode jdk_43_method_3_code 1 = .ok (.sipush 255, 3) := by decide +kernel
theorem d8_4 : decode jdk_43_method_3_code 4 = .ok (.if_icmp .gt 7, 3) := by decide +kernel
theorem d8_11 : decode jdk_43_method_3_code 11 = .ok (.iconst 0, 1) := by decide +kernel
theorem d8_12 : decode jdk_43_method_3_code 12 = .ok (.ireturn, 1) := by decide +kernel
theorem d8_7 : decode jdk_43_method_3_code 7 = .ok (.iconst 1, 1) := by decide +kernel
theorem d8_8 : decode jdk_43_method_3_code 8 = .ok (.goto 4, 3) := by decide +kernel
abbrev mt2 : MethodName := (⟨"java/lang/StringLatin1", "toBytes", "(C)[B"⟩ : MethodName)
theorem ef_own_toBytes (m : MethodId) (x0 : Int32) : entryFrame m #[(.int x0)] 1 = mkF m 0 #[.val (.int x0)] [] := by first | (simp [entryFrame, mkF, argsToLocals, Value.category]; done) | rfl
theorem d9_0 : decode jdk_43_method_46_code 0 = .ok (.iconst 1, 1) := by decide +kernel
theorem d9_1 : decode jdk_43_method_46_code 1 = .ok (.newarray .byte, 2) := by decide +kernel
theorem wd20 {Z : State} {a0 : Array Value} (hw : ∀ d ∈ tables_1, d.before a0 Z = true) : ((Jvm.Cond.arrayClass Jvm.ClassFile.FieldType.byte) : Jvm.Cond).before a0 Z = true := hw _ (List.mem_of_getElem? (i := 20) rfl)
theorem d9_3 : decode jdk_43_method_46_code 3 = .ok (.dup, 1) := by decide +kernel
theorem d9_4 : decode jdk_43_method_46_code 4 = .ok (.iconst 0, 1) := by decide +kernel
theorem d9_5 : decode jdk_43_method_46_code 5 = .ok (.iload_n 0, 1) := by decide +kernel
theorem d9_6 : decode jdk_43_method_46_code 6 = .ok (.i2b, 1) := by decide +kernel
theorem d9_7 : decode jdk_43_method_46_code 7 = .ok (.bastore, 1) := by decide +kernel
theorem d9_8 : decode jdk_43_method_46_code 8 = .ok (.areturn, 1) := by decide +kernel
abbrev mt3 : MethodName := (⟨"java/lang/String", "<init>", "([BB)V"⟩ : MethodName)
theorem pn_java_lang_String : plainName "java/lang/String" = true := by first | (simp [plainName, overriddenIn]; done) | decide +kernel
theorem ef_own_strBB (m : MethodId) (x0 : Addr) (x1 : Addr) (x2 : Int32) : entryFrame m #[(.ref x0), (.ref x1), (.int x2)] 3 = mkF m 0 #[.val (.ref x0), .val (.ref x1), .val (.int x2)] [] := by first | (simp [entryFrame, mkF, argsToLocals, Value.category]; done) | rfl
theorem d10_0 : decode jdk_42_method_151_code 0 = .ok (.aload_n 0, 1) := by decide +kernel
theorem d10_1 : decode jdk_42_method_151_code 1 = .ok (.invokespecial 1, 3) := by decide +kernel
theorem wd12 {Z : State} {a0 : Array Value} (hw : ∀ d ∈ tables_1, d.before a0 Z = true) : ((Jvm.Cond.methodLink "java/lang/String" (1 : Nat) ({ cls := "java/lang/Object", name := "<init>", desc := "()V" } : Jvm.MethodName)) : Jvm.Cond).before a0 Z = true := hw _ (List.mem_of_getElem? (i := 12) rfl)
theorem d10_4 : decode jdk_42_method_151_code 4 = .ok (.aload_n 0, 1) := by decide +kernel
theorem d10_5 : decode jdk_42_method_151_code 5 = .ok (.aload_n 1, 1) := by decide +kernel
theorem d10_6 : decode jdk_42_method_151_code 6 = .ok (.putfield 9, 3) := by decide +kernel
theorem wd29 {Z : State} {a0 : Array Value} (hw : ∀ d ∈ tables_1, d.before a0 Z = true) : ((Jvm.Cond.fieldLink "java/lang/String" (9 : Nat) "java/lang/String" "value" "[B") : Jvm.Cond).before a0 Z = true := hw _ (List.mem_of_getElem? (i := 29) rfl)
theorem wd3 {Z : State} {a0 : Array Value} (hw : ∀ d ∈ tables_1, d.before a0 Z = true) : ((Jvm.Cond.instantiable "java/lang/String" (4 : Nat)) : Jvm.Cond).before a0 Z = true := hw _ (List.mem_of_getElem? (i := 3) rfl)
theorem wd30 {Z : State} {a0 : Array Value} (hw : ∀ d ∈ tables_1, d.before a0 Z = true) : ((Jvm.Cond.laysFinal "java/lang/String" "java/lang/String" "value" "[B") : Jvm.Cond).before a0 Z = true := hw _ (List.mem_of_getElem? (i := 30) rfl)
theorem d10_9 : decode jdk_42_method_151_code 9 = .ok (.aload_n 0, 1) := by decide +kernel
theorem d10_10 : decode jdk_42_method_151_code 10 = .ok (.iload_n 2, 1) := by decide +kernel
theorem d10_11 : decode jdk_42_method_151_code 11 = .ok (.putfield 15, 3) := by decide +kernel
theorem wd27 {Z : State} {a0 : Array Value} (hw : ∀ d ∈ tables_1, d.before a0 Z = true) : ((Jvm.Cond.fieldLink "java/lang/String" (15 : Nat) "java/lang/String" "coder" "B") : Jvm.Cond).before a0 Z = true := hw _ (List.mem_of_getElem? (i := 27) rfl)
theorem wd28 {Z : State} {a0 : Array Value} (hw : ∀ d ∈ tables_1, d.before a0 Z = true) : ((Jvm.Cond.laysFinal "java/lang/String" "java/lang/String" "coder" "B") : Jvm.Cond).before a0 Z = true := hw _ (List.mem_of_getElem? (i := 28) rfl)
theorem d10_14 : decode jdk_42_method_151_code 14 = .ok (.return_, 1) := by decide +kernel
abbrev mt4 : MethodName := (⟨"java/lang/String", "valueOf", "(C)Ljava/lang/String;"⟩ : MethodName)
theorem ef_own_valueOf (m : MethodId) (x0 : Int32) : entryFrame m #[(.int x0)] 1 = mkF m 0 #[.val (.int x0)] [] := by first | (simp [entryFrame, mkF, argsToLocals, Value.category]; done) | rfl
theorem d7_0 : decode jdk_42_method_139_code 0 = .ok (.getstatic 38, 3) := by decide +kernel
theorem wd15 {Z : State} {a0 : Array Value} (hw : ∀ d ∈ tables_1, d.before a0 Z = true) : ((Jvm.Cond.fieldLink "java/lang/String" (38 : Nat) "java/lang/String" "COMPACT_STRINGS" "Z") : Jvm.Cond).before a0 Z = true := hw _ (List.mem_of_getElem? (i := 15) rfl)
theorem d7_3 : decode jdk_42_method_139_code 3 = .ok (.ifCond .eq 23, 3) := by decide +kernel
theorem d7_6 : decode jdk_42_method_139_code 6 = .ok (.iload_n 0, 1) := by decide +kernel
theorem d7_7 : decode jdk_42_method_139_code 7 = .ok (.invokestatic 1015, 3) := by decide +kernel
theorem wd34 {Z : State} {a0 : Array Value} (hw : ∀ d ∈ tables_1, d.before a0 Z = true) : ((Jvm.Cond.methodLink "java/lang/String" (1015 : Nat) ({ cls := "java/lang/StringLatin1", name := "canEncode", desc := "(C)Z" } : Jvm.MethodName)) : Jvm.Cond).before a0 Z = true := hw _ (List.mem_of_getElem? (i := 34) rfl)
theorem wd37 {Z : State} {a0 : Array Value} (hw : ∀ d ∈ tables_1, d.before a0 Z = true) : ((Jvm.Cond.code ({ cls := "java/lang/StringLatin1", name := "canEncode", desc := "(C)Z" } : Jvm.MethodName) jdk_43_method_3_code (1 : Nat) (Option.some Jvm.ClassFile.FieldType.boolean)) : Jvm.Cond).before a0 Z = true := hw _ (List.mem_of_getElem? (i := 37) rfl)
theorem wd36 {Z : State} {a0 : Array Value} (hw : ∀ d ∈ tables_1, d.before a0 Z = true) : ((Jvm.Cond.initialized "java/lang/StringLatin1") : Jvm.Cond).before a0 Z = true := hw _ (List.mem_of_getElem? (i := 36) rfl)
theorem pd__C_Z_238 : parseMethodDescriptor "(C)Z" = some ⟨[.char], some .boolean⟩ := by decide +kernel
theorem wd35 {Z : State} {a0 : Array Value} (hw : ∀ d ∈ tables_1, d.before a0 Z = true) : ((Jvm.Cond.static ({ cls := "java/lang/StringLatin1", name := "canEncode", desc := "(C)Z" } : Jvm.MethodName)) : Jvm.Cond).before a0 Z = true := hw _ (List.mem_of_getElem? (i := 35) rfl)
theorem d7_10 : decode jdk_42_method_139_code 10 = .ok (.ifCond .eq 16, 3) := by decide +kernel
theorem d7_13 : decode jdk_42_method_139_code 13 = .ok (.new 10, 3) := by decide +kernel
theorem wd38 {Z : State} {a0 : Array Value} (hw : ∀ d ∈ tables_1, d.before a0 Z = true) : ((Jvm.Cond.classLink "java/lang/String" (10 : Nat) "java/lang/String") : Jvm.Cond).before a0 Z = true := hw _ (List.mem_of_getElem? (i := 38) rfl)
theorem wd4 {Z : State} {a0 : Array Value} (hw : ∀ d ∈ tables_1, d.before a0 Z = true) : ((Jvm.Cond.initialized "java/lang/String") : Jvm.Cond).before a0 Z = true := hw _ (List.mem_of_getElem? (i := 4) rfl)
theorem d7_16 : decode jdk_42_method_139_code 16 = .ok (.dup, 1) := by decide +kernel
theorem d7_17 : decode jdk_42_method_139_code 17 = .ok (.iload_n 0, 1) := by decide +kernel
theorem d7_18 : decode jdk_42_method_139_code 18 = .ok (.invokestatic 1018, 3) := by decide +kernel
theorem wd39 {Z : State} {a0 : Array Value} (hw : ∀ d ∈ tables_1, d.before a0 Z = true) : ((Jvm.Cond.methodLink "java/lang/String" (1018 : Nat) ({ cls := "java/lang/StringLatin1", name := "toBytes", desc := "(C)[B" } : Jvm.MethodName)) : Jvm.Cond).before a0 Z = true := hw _ (List.mem_of_getElem? (i := 39) rfl)
theorem wd41 {Z : State} {a0 : Array Value} (hw : ∀ d ∈ tables_1, d.before a0 Z = true) : ((Jvm.Cond.code ({ cls := "java/lang/StringLatin1", name := "toBytes", desc := "(C)[B" } : Jvm.MethodName) jdk_43_method_46_code (1 : Nat) (Option.some (Jvm.ClassFile.FieldType.array Jvm.ClassFile.FieldType.byte))) : Jvm.Cond).before a0 Z = true := hw _ (List.mem_of_getElem? (i := 41) rfl)
theorem pd__C__B_305 : parseMethodDescriptor "(C)[B" = some ⟨[.char], some (.array .byte)⟩ := by decide +kernel
theorem wd40 {Z : State} {a0 : Array Value} (hw : ∀ d ∈ tables_1, d.before a0 Z = true) : ((Jvm.Cond.static ({ cls := "java/lang/StringLatin1", name := "toBytes", desc := "(C)[B" } : Jvm.MethodName)) : Jvm.Cond).before a0 Z = true := hw _ (List.mem_of_getElem? (i := 40) rfl)
theorem d7_21 : decode jdk_42_method_139_code 21 = .ok (.iconst 0, 1) := by decide +kernel
theorem d7_22 : decode jdk_42_method_139_code 22 = .ok (.invokespecial 209, 3) := by decide +kernel
theorem wd42 {Z : State} {a0 : Array Value} (hw : ∀ d ∈ tables_1, d.before a0 Z = true) : ((Jvm.Cond.methodLink "java/lang/String" (209 : Nat) ({ cls := "java/lang/String", name := "<init>", desc := "([BB)V" } : Jvm.MethodName)) : Jvm.Cond).before a0 Z = true := hw _ (List.mem_of_getElem? (i := 42) rfl)
theorem wd44 {Z : State} {a0 : Array Value} (hw : ∀ d ∈ tables_1, d.before a0 Z = true) : ((Jvm.Cond.code ({ cls := "java/lang/String", name := "<init>", desc := "([BB)V" } : Jvm.MethodName) jdk_42_method_151_code (3 : Nat) (Option.none : Option Jvm.ClassFile.FieldType)) : Jvm.Cond).before a0 Z = true := hw _ (List.mem_of_getElem? (i := 44) rfl)
theorem pd___BB_V_390 : parseMethodDescriptor "([BB)V" = some ⟨[(.array .byte), .byte], none⟩ := by decide +kernel
theorem wd43 {Z : State} {a0 : Array Value} (hw : ∀ d ∈ tables_1, d.before a0 Z = true) : ((Jvm.Cond.instanceMethod ({ cls := "java/lang/String", name := "<init>", desc := "([BB)V" } : Jvm.MethodName)) : Jvm.Cond).before a0 Z = true := hw _ (List.mem_of_getElem? (i := 43) rfl)
theorem d7_25 : decode jdk_42_method_139_code 25 = .ok (.areturn, 1) := by decide +kernel
abbrev mt5 : MethodName := (⟨"com/example/object_access_rules/objectaccessrules/service/HttpRequest", "<init>", "(Ljava/lang/String;Ljava/lang/String;Ljava/lang/String;JZZZ)V"⟩ : MethodName)
theorem pn_com_example_object_access_rules_objectaccessrules_service_HttpRequest : plainName "com/example/object_access_rules/objectaccessrules/service/HttpRequest" = true := by first | (simp [plainName, overriddenIn]; done) | decide +kernel
theorem ef_own_hrN (m : MethodId) (x0 : Addr) (x1 : Addr) (x2 : Addr) (x4 : Int64) (x5 : Int32) (x6 : Int32) (x7 : Int32) : entryFrame m #[(.ref x0), (.ref x1), (.ref x2), .null, (.long x4), (.int x5), (.int x6), (.int x7)] 9 = mkF m 0 #[.val (.ref x0), .val (.ref x1), .val (.ref x2), .val .null, .val (.long x4), .second, .val (.int x5), .val (.int x6), .val (.int x7)] [] := by first | (simp [entryFrame, mkF, argsToLocals, Value.category]; done) | rfl
theorem d11_0 : decode prog_113_method_1_code 0 = .ok (.aload_n 0, 1) := by decide +kernel
theorem d11_1 : decode prog_113_method_1_code 1 = .ok (.invokespecial 1, 3) := by decide +kernel
theorem wd51 {Z : State} {a0 : Array Value} (hw : ∀ d ∈ tables_1, d.before a0 Z = true) : ((Jvm.Cond.methodLink "com/example/object_access_rules/objectaccessrules/service/HttpRequest" (1 : Nat) ({ cls := "java/lang/Record", name := "<init>", desc := "()V" } : Jvm.MethodName)) : Jvm.Cond).before a0 Z = true := hw _ (List.mem_of_getElem? (i := 51) rfl)
theorem wd55 {Z : State} {a0 : Array Value} (hw : ∀ d ∈ tables_1, d.before a0 Z = true) : ((Jvm.Cond.code ({ cls := "java/lang/Record", name := "<init>", desc := "()V" } : Jvm.MethodName) jdk_30_method_1_code (1 : Nat) (Option.none : Option Jvm.ClassFile.FieldType)) : Jvm.Cond).before a0 Z = true := hw _ (List.mem_of_getElem? (i := 55) rfl)
theorem wd54 {Z : State} {a0 : Array Value} (hw : ∀ d ∈ tables_1, d.before a0 Z = true) : ((Jvm.Cond.initialized "java/lang/Record") : Jvm.Cond).before a0 Z = true := hw _ (List.mem_of_getElem? (i := 54) rfl)
theorem pd___V_167 : parseMethodDescriptor "()V" = some ⟨[], none⟩ := by decide +kernel
theorem wd52 {Z : State} {a0 : Array Value} (hw : ∀ d ∈ tables_1, d.before a0 Z = true) : ((Jvm.Cond.instanceMethod ({ cls := "java/lang/Record", name := "<init>", desc := "()V" } : Jvm.MethodName)) : Jvm.Cond).before a0 Z = true := hw _ (List.mem_of_getElem? (i := 52) rfl)
theorem d11_4 : decode prog_113_method_1_code 4 = .ok (.aload_n 0, 1) := by decide +kernel
theorem d11_5 : decode prog_113_method_1_code 5 = .ok (.aload_n 1, 1) := by decide +kernel
theorem d11_6 : decode prog_113_method_1_code 6 = .ok (.putfield 7, 3) := by decide +kernel
theorem wd57 {Z : State} {a0 : Array Value} (hw : ∀ d ∈ tables_1, d.before a0 Z = true) : ((Jvm.Cond.fieldLink "com/example/object_access_rules/objectaccessrules/service/HttpRequest" (7 : Nat) "com/example/object_access_rules/objectaccessrules/service/HttpRequest" "method" "Ljava/lang/String;") : Jvm.Cond).before a0 Z = true := hw _ (List.mem_of_getElem? (i := 57) rfl)
theorem wd46 {Z : State} {a0 : Array Value} (hw : ∀ d ∈ tables_1, d.before a0 Z = true) : ((Jvm.Cond.instantiable "com/example/object_access_rules/objectaccessrules/service/HttpRequest" (7 : Nat)) : Jvm.Cond).before a0 Z = true := hw _ (List.mem_of_getElem? (i := 46) rfl)
theorem wd58 {Z : State} {a0 : Array Value} (hw : ∀ d ∈ tables_1, d.before a0 Z = true) : ((Jvm.Cond.laysFinal "com/example/object_access_rules/objectaccessrules/service/HttpRequest" "com/example/object_access_rules/objectaccessrules/service/HttpRequest" "method" "Ljava/lang/String;") : Jvm.Cond).before a0 Z = true := hw _ (List.mem_of_getElem? (i := 58) rfl)
theorem d11_9 : decode prog_113_method_1_code 9 = .ok (.aload_n 0, 1) := by decide +kernel
theorem d11_10 : decode prog_113_method_1_code 10 = .ok (.aload_n 2, 1) := by decide +kernel
theorem d11_11 : decode prog_113_method_1_code 11 = .ok (.putfield 13, 3) := by decide +kernel
theorem wd59 {Z : State} {a0 : Array Value} (hw : ∀ d ∈ tables_1, d.before a0 Z = true) : ((Jvm.Cond.fieldLink "com/example/object_access_rules/objectaccessrules/service/HttpRequest" (13 : Nat) "com/example/object_access_rules/objectaccessrules/service/HttpRequest" "path" "Ljava/lang/String;") : Jvm.Cond).before a0 Z = true := hw _ (List.mem_of_getElem? (i := 59) rfl)
theorem wd60 {Z : State} {a0 : Array Value} (hw : ∀ d ∈ tables_1, d.before a0 Z = true) : ((Jvm.Cond.laysFinal "com/example/object_access_rules/objectaccessrules/service/HttpRequest" "com/example/object_access_rules/objectaccessrules/service/HttpRequest" "path" "Ljava/lang/String;") : Jvm.Cond).before a0 Z = true := hw _ (List.mem_of_getElem? (i := 60) rfl)
theorem d11_14 : decode prog_113_method_1_code 14 = .ok (.aload_n 0, 1) := by decide +kernel
theorem d11_15 : decode prog_113_method_1_code 15 = .ok (.aload_n 3, 1) := by decide +kernel
theorem d11_16 : decode prog_113_method_1_code 16 = .ok (.putfield 16, 3) := by decide +kernel
theorem wd61 {Z : State} {a0 : Array Value} (hw : ∀ d ∈ tables_1, d.before a0 Z = true) : ((Jvm.Cond.fieldLink "com/example/object_access_rules/objectaccessrules/service/HttpRequest" (16 : Nat) "com/example/object_access_rules/objectaccessrules/service/HttpRequest" "host" "Ljava/lang/String;") : Jvm.Cond).before a0 Z = true := hw _ (List.mem_of_getElem? (i := 61) rfl)
theorem wd62 {Z : State} {a0 : Array Value} (hw : ∀ d ∈ tables_1, d.before a0 Z = true) : ((Jvm.Cond.laysFinal "com/example/object_access_rules/objectaccessrules/service/HttpRequest" "com/example/object_access_rules/objectaccessrules/service/HttpRequest" "host" "Ljava/lang/String;") : Jvm.Cond).before a0 Z = true := hw _ (List.mem_of_getElem? (i := 62) rfl)
theorem d11_19 : decode prog_113_method_1_code 19 = .ok (.aload_n 0, 1) := by decide +kernel
theorem d11_20 : decode prog_113_method_1_code 20 = .ok (.lload 4, 2) := by decide +kernel
theorem d11_22 : decode prog_113_method_1_code 22 = .ok (.putfield 19, 3) := by decide +kernel
theorem wd63 {Z : State} {a0 : Array Value} (hw : ∀ d ∈ tables_1, d.before a0 Z = true) : ((Jvm.Cond.fieldLink "com/example/object_access_rules/objectaccessrules/service/HttpRequest" (19 : Nat) "com/example/object_access_rules/objectaccessrules/service/HttpRequest" "contentLength" "J") : Jvm.Cond).before a0 Z = true := hw _ (List.mem_of_getElem? (i := 63) rfl)
theorem wd64 {Z : State} {a0 : Array Value} (hw : ∀ d ∈ tables_1, d.before a0 Z = true) : ((Jvm.Cond.laysFinal "com/example/object_access_rules/objectaccessrules/service/HttpRequest" "com/example/object_access_rules/objectaccessrules/service/HttpRequest" "contentLength" "J") : Jvm.Cond).before a0 Z = true := hw _ (List.mem_of_getElem? (i := 64) rfl)
theorem d11_25 : decode prog_113_method_1_code 25 = .ok (.aload_n 0, 1) := by decide +kernel
theorem d11_26 : decode prog_113_method_1_code 26 = .ok (.iload 6, 2) := by decide +kernel
theorem d11_28 : decode prog_113_method_1_code 28 = .ok (.putfield 23, 3) := by decide +kernel
theorem wd65 {Z : State} {a0 : Array Value} (hw : ∀ d ∈ tables_1, d.before a0 Z = true) : ((Jvm.Cond.fieldLink "com/example/object_access_rules/objectaccessrules/service/HttpRequest" (23 : Nat) "com/example/object_access_rules/objectaccessrules/service/HttpRequest" "chunked" "Z") : Jvm.Cond).before a0 Z = true := hw _ (List.mem_of_getElem? (i := 65) rfl)
theorem wd66 {Z : State} {a0 : Array Value} (hw : ∀ d ∈ tables_1, d.before a0 Z = true) : ((Jvm.Cond.laysFinal "com/example/object_access_rules/objectaccessrules/service/HttpRequest" "com/example/object_access_rules/objectaccessrules/service/HttpRequest" "chunked" "Z") : Jvm.Cond).before a0 Z = true := hw _ (List.mem_of_getElem? (i := 66) rfl)
theorem d11_31 : decode prog_113_method_1_code 31 = .ok (.aload_n 0, 1) := by decide +kernel
theorem d11_32 : decode prog_113_method_1_code 32 = .ok (.iload 7, 2) := by decide +kernel
theorem d11_34 : decode prog_113_method_1_code 34 = .ok (.putfield 27, 3) := by decide +kernel
theorem wd67 {Z : State} {a0 : Array Value} (hw : ∀ d ∈ tables_1, d.before a0 Z = true) : ((Jvm.Cond.fieldLink "com/example/object_access_rules/objectaccessrules/service/HttpRequest" (27 : Nat) "com/example/object_access_rules/objectaccessrules/service/HttpRequest" "keepAlive" "Z") : Jvm.Cond).before a0 Z = true := hw _ (List.mem_of_getElem? (i := 67) rfl)
theorem wd68 {Z : State} {a0 : Array Value} (hw : ∀ d ∈ tables_1, d.before a0 Z = true) : ((Jvm.Cond.laysFinal "com/example/object_access_rules/objectaccessrules/service/HttpRequest" "com/example/object_access_rules/objectaccessrules/service/HttpRequest" "keepAlive" "Z") : Jvm.Cond).before a0 Z = true := hw _ (List.mem_of_getElem? (i := 68) rfl)
theorem d11_37 : decode prog_113_method_1_code 37 = .ok (.aload_n 0, 1) := by decide +kernel
theorem d11_38 : decode prog_113_method_1_code 38 = .ok (.iload 8, 2) := by decide +kernel
theorem d11_40 : decode prog_113_method_1_code 40 = .ok (.putfield 30, 3) := by decide +kernel
theorem wd69 {Z : State} {a0 : Array Value} (hw : ∀ d ∈ tables_1, d.before a0 Z = true) : ((Jvm.Cond.fieldLink "com/example/object_access_rules/objectaccessrules/service/HttpRequest" (30 : Nat) "com/example/object_access_rules/objectaccessrules/service/HttpRequest" "expectsContinue" "Z") : Jvm.Cond).before a0 Z = true := hw _ (List.mem_of_getElem? (i := 69) rfl)
theorem wd70 {Z : State} {a0 : Array Value} (hw : ∀ d ∈ tables_1, d.before a0 Z = true) : ((Jvm.Cond.laysFinal "com/example/object_access_rules/objectaccessrules/service/HttpRequest" "com/example/object_access_rules/objectaccessrules/service/HttpRequest" "expectsContinue" "Z") : Jvm.Cond).before a0 Z = true := hw _ (List.mem_of_getElem? (i := 70) rfl)
theorem d11_43 : decode prog_113_method_1_code 43 = .ok (.return_, 1) := by decide +kernel
theorem ef_own_hrR (m : MethodId) (x0 : Addr) (x1 : Addr) (x2 : Addr) (x3 : Addr) (x4 : Int64) (x5 : Int32) (x6 : Int32) (x7 : Int32) : entryFrame m #[(.ref x0), (.ref x1), (.ref x2), (.ref x3), (.long x4), (.int x5), (.int x6), (.int x7)] 9 = mkF m 0 #[.val (.ref x0), .val (.ref x1), .val (.ref x2), .val (.ref x3), .val (.long x4), .second, .val (.int x5), .val (.int x6), .val (.int x7)] [] := by first | (simp [entryFrame, mkF, argsToLocals, Value.category]; done) | rfl
abbrev mt6 : MethodName := (⟨"com/example/object_access_rules/objectaccessrules/service/HttpRequest", "hasBody", "()Z"⟩ : MethodName)
theorem ef_own_hasBody (m : MethodId) (x0 : Addr) : entryFrame m #[(.ref x0)] 1 = mkF m 0 #[.val (.ref x0)] [] := by first | (simp [entryFrame, mkF, argsToLocals, Value.category]; done) | rfl
theorem d13_0 : decode prog_113_method_2_code 0 = .ok (.aload_n 0, 1) := by decide +kernel
theorem d13_1 : decode prog_113_method_2_code 1 = .ok (.getfield 23, 3) := by decide +kernel
theorem d13_4 : decode prog_113_method_2_code 4 = .ok (.ifCond .ne 12, 3) := by decide +kernel
theorem d13_7 : decode prog_113_method_2_code 7 = .ok (.aload_n 0, 1) := by decide +kernel
theorem d13_8 : decode prog_113_method_2_code 8 = .ok (.getfield 19, 3) := by decide +kernel
theorem d13_11 : decode prog_113_method_2_code 11 = .ok (.lconst 0, 1) := by decide +kernel
theorem d13_12 : decode prog_113_method_2_code 12 = .ok (.lcmp, 1) := by decide +kernel
theorem d13_13 : decode prog_113_method_2_code 13 = .ok (.ifCond .le 7, 3) := by decide +kernel
theorem d13_16 : decode prog_113_method_2_code 16 = .ok (.iconst 1, 1) := by decide +kernel
theorem d13_17 : decode prog_113_method_2_code 17 = .ok (.goto 4, 3) := by decide +kernel
theorem d13_21 : decode prog_113_method_2_code 21 = .ok (.ireturn, 1) := by decide +kernel
theorem d13_20 : decode prog_113_method_2_code 20 = .ok (.iconst 0, 1) := by decide +kernel
theorem pn_com_example_object_access_rules_objectaccessrules_service_HttpRequestHasBodyPinLaw : plainName "com/example/object_access_rules/objectaccessrules/service/HttpRequestHasBodyPinLaw" = true := by first | (simp [plainName, overriddenIn]; done) | decide +kernel
theorem ef_own_law (m : MethodId) (x0 : Int64) (x1 : Int32) (x2 : Int32) (x3 : Int32) : entryFrame m #[(.long x0), (.int x1), (.int x2), (.int x3)] maxLocals = mkF m 0 #[.val (.long x0), .second, .val (.int x1), .val (.int x2), .val (.int x3), .unset, .unset, .unset, .unset, .unset, .unset, .unset, .unset, .unset, .unset, .unset, .unset] [] := by first | (simp [entryFrame, mkF, argsToLocals, Value.category, maxLocals]; done) | rfl
theorem wd0 {Z : State} {a0 : Array Value} (hw : ∀ d ∈ tables_1, d.before a0 Z = true) : ((Jvm.Cond.constantLong "com/example/object_access_rules/objectaccessrules/service/HttpRequestHasBodyPinLaw" (7 : Nat) (-1 : Int64)) : Jvm.Cond).before a0 Z = true := hw _ (List.mem_of_getElem? (i := 0) rfl)
theorem wd76 {Z : State} {a0 : Array Value} (hw : ∀ d ∈ tables_1, d.before a0 Z = true) : ((Jvm.Cond.constantLong "com/example/object_access_rules/objectaccessrules/service/HttpRequestHasBodyPinLaw" (11 : Nat) (9223372036854775807 : Int64)) : Jvm.Cond).before a0 Z = true := hw _ (List.mem_of_getElem? (i := 76) rfl)
theorem wd1 {Z : State} {a0 : Array Value} (hw : ∀ d ∈ tables_1, d.before a0 Z = true) : ((Jvm.Cond.arrayClass Jvm.ClassFile.FieldType.char) : Jvm.Cond).before a0 Z = true := hw _ (List.mem_of_getElem? (i := 1) rfl)
theorem wd2 {Z : State} {a0 : Array Value} (hw : ∀ d ∈ tables_1, d.before a0 Z = true) : ((Jvm.Cond.classLink "com/example/object_access_rules/objectaccessrules/service/HttpRequestHasBodyPinLaw" (13 : Nat) "java/lang/String") : Jvm.Cond).before a0 Z = true := hw _ (List.mem_of_getElem? (i := 2) rfl)
theorem wd5 {Z : State} {a0 : Array Value} (hw : ∀ d ∈ tables_1, d.before a0 Z = true) : ((Jvm.Cond.methodLink "com/example/object_access_rules/objectaccessrules/service/HttpRequestHasBodyPinLaw" (15 : Nat) ({ cls := "java/lang/String", name := "<init>", desc := "([C)V" } : Jvm.MethodName)) : Jvm.Cond).before a0 Z = true := hw _ (List.mem_of_getElem? (i := 5) rfl)
theorem own_mw {Z : State} {a0 : Array Value} (hw : ∀ d ∈ tables_1, d.before a0 Z = true) : ∀ d ∈ StrChars.Road.words, d.before a0 Z = true := fun d hd => hw d ((by decide +kernel : ∀ d ∈ StrChars.Road.words, d ∈ tables_1) d hd)
theorem wd7 {Z : State} {a0 : Array Value} (hw : ∀ d ∈ tables_1, d.before a0 Z = true) : ((Jvm.Cond.code ({ cls := "java/lang/String", name := "<init>", desc := "([C)V" } : Jvm.MethodName) jdk_42_method_3_code (2 : Nat) (Option.none : Option Jvm.ClassFile.FieldType)) : Jvm.Cond).before a0 Z = true := hw _ (List.mem_of_getElem? (i := 7) rfl)
theorem pd___C_V_325 : parseMethodDescriptor "([C)V" = some ⟨[(.array .char)], none⟩ := by decide +kernel
abbrev mt7 : MethodName := (⟨"java/lang/String", "<init>", "([C)V"⟩ : MethodName)
theorem wd6 {Z : State} {a0 : Array Value} (hw : ∀ d ∈ tables_1, d.before a0 Z = true) : ((Jvm.Cond.instanceMethod ({ cls := "java/lang/String", name := "<init>", desc := "([C)V" } : Jvm.MethodName)) : Jvm.Cond).before a0 Z = true := hw _ (List.mem_of_getElem? (i := 6) rfl)
theorem wd31 {Z : State} {a0 : Array Value} (hw : ∀ d ∈ tables_1, d.before a0 Z = true) : ((Jvm.Cond.methodLink "com/example/object_access_rules/objectaccessrules/service/HttpRequestHasBodyPinLaw" (18 : Nat) ({ cls := "java/lang/String", name := "valueOf", desc := "(C)Ljava/lang/String;" } : Jvm.MethodName)) : Jvm.Cond).before a0 Z = true := hw _ (List.mem_of_getElem? (i := 31) rfl)
theorem wd33 {Z : State} {a0 : Array Value} (hw : ∀ d ∈ tables_1, d.before a0 Z = true) : ((Jvm.Cond.code ({ cls := "java/lang/String", name := "valueOf", desc := "(C)Ljava/lang/String;" } : Jvm.MethodName) jdk_42_method_139_code (1 : Nat) (Option.some (Jvm.ClassFile.FieldType.object "java/lang/String"))) : Jvm.Cond).before a0 Z = true := hw _ (List.mem_of_getElem? (i := 33) rfl)
theorem pd__C_Ljava_lang_String__1844 : parseMethodDescriptor "(C)Ljava/lang/String;" = some ⟨[.char], some (.object "java/lang/String")⟩ := by decide +kernel
theorem wd32 {Z : State} {a0 : Array Value} (hw : ∀ d ∈ tables_1, d.before a0 Z = true) : ((Jvm.Cond.static ({ cls := "java/lang/String", name := "valueOf", desc := "(C)Ljava/lang/String;" } : Jvm.MethodName)) : Jvm.Cond).before a0 Z = true := hw _ (List.mem_of_getElem? (i := 32) rfl)
theorem wd45 {Z : State} {a0 : Array Value} (hw : ∀ d ∈ tables_1, d.before a0 Z = true) : ((Jvm.Cond.classLink "com/example/object_access_rules/objectaccessrules/service/HttpRequestHasBodyPinLaw" (22 : Nat) "com/example/object_access_rules/objectaccessrules/service/HttpRequest") : Jvm.Cond).before a0 Z = true := hw _ (List.mem_of_getElem? (i := 45) rfl)
theorem wd47 {Z : State} {a0 : Array Value} (hw : ∀ d ∈ tables_1, d.before a0 Z = true) : ((Jvm.Cond.initialized "com/example/object_access_rules/objectaccessrules/service/HttpRequest") : Jvm.Cond).before a0 Z = true := hw _ (List.mem_of_getElem? (i := 47) rfl)
theorem wd48 {Z : State} {a0 : Array Value} (hw : ∀ d ∈ tables_1, d.before a0 Z = true) : ((Jvm.Cond.methodLink "com/example/object_access_rules/objectaccessrules/service/HttpRequestHasBodyPinLaw" (24 : Nat) ({ cls := "com/example/object_access_rules/objectaccessrules/service/HttpRequest", name := "<init>", desc := "(Ljava/lang/String;Ljava/lang/String;Ljava/lang/String;JZZZ)V" } : Jvm.MethodName)) : Jvm.Cond).before a0 Z = true := hw _ (List.mem_of_getElem? (i := 48) rfl)
theorem wd50 {Z : State} {a0 : Array Value} (hw : ∀ d ∈ tables_1, d.before a0 Z = true) : ((Jvm.Cond.code ({ cls := "com/example/object_access_rules/objectaccessrules/service/HttpRequest", name := "<init>", desc := "(Ljava/lang/String;Ljava/lang/String;Ljava/lang/String;JZZZ)V" } : Jvm.MethodName) prog_113_method_1_code (9 : Nat) (Option.none : Option Jvm.ClassFile.FieldType)) : Jvm.Cond).before a0 Z = true := hw _ (List.mem_of_getElem? (i := 50) rfl)
theorem pd__Ljava_lang_String_Ljava_lang_String_Ljava_lang_String_JZZZ_V_5599 : parseMethodDescriptor "(Ljava/lang/String;Ljava/lang/String;Ljava/lang/String;JZZZ)V" = some ⟨[(.object "java/lang/String"), (.object "java/lang/String"), (.object "java/lang/String"), .long, .boolean, .boolean, .boolean], none⟩ := by decide +kernel
theorem wd49 {Z : State} {a0 : Array Value} (hw : ∀ d ∈ tables_1, d.before a0 Z = true) : ((Jvm.Cond.instanceMethod ({ cls := "com/example/object_access_rules/objectaccessrules/service/HttpRequest", name := "<init>", desc := "(Ljava/lang/String;Ljava/lang/String;Ljava/lang/String;JZZZ)V" } : Jvm.MethodName)) : Jvm.Cond).before a0 Z = true := hw _ (List.mem_of_getElem? (i := 49) rfl)
theorem wd71 {Z : State} {a0 : Array Value} (hw : ∀ d ∈ tables_1, d.before a0 Z = true) : ((Jvm.Cond.methodLink "com/example/object_access_rules/objectaccessrules/service/HttpRequestHasBodyPinLaw" (27 : Nat) ({ cls := "com/example/object_access_rules/objectaccessrules/service/HttpRequest", name := "hasBody", desc := "()Z" } : Jvm.MethodName)) : Jvm.Cond).before a0 Z = true := hw _ (List.mem_of_getElem? (i := 71) rfl)
theorem wd75 {Z : State} {a0 : Array Value} (hw : ∀ d ∈ tables_1, d.before a0 Z = true) : ((Jvm.Cond.code ({ cls := "com/example/object_access_rules/objectaccessrules/service/HttpRequest", name := "hasBody", desc := "()Z" } : Jvm.MethodName) prog_113_method_2_code (1 : Nat) (Option.some Jvm.ClassFile.FieldType.boolean)) : Jvm.Cond).before a0 Z = true := hw _ (List.mem_of_getElem? (i := 75) rfl)
theorem pd___Z_171 : parseMethodDescriptor "()Z" = some ⟨[], some .boolean⟩ := by decide +kernel
theorem wd74 {Z : State} {a0 : Array Value} (hw : ∀ d ∈ tables_1, d.before a0 Z = true) : ((Jvm.Cond.selects "com/example/object_access_rules/objectaccessrules/service/HttpRequest" ({ cls := "com/example/object_access_rules/objectaccessrules/service/HttpRequest", name := "hasBody", desc := "()Z" } : Jvm.MethodName) ({ cls := "com/example/object_access_rules/objectaccessrules/service/HttpRequest", name := "hasBody", desc := "()Z" } : Jvm.MethodName)) : Jvm.Cond).before a0 Z = true := hw _ (List.mem_of_getElem? (i := 74) rfl)
theorem wd72 {Z : State} {a0 : Array Value} (hw : ∀ d ∈ tables_1, d.before a0 Z = true) : ((Jvm.Cond.declares ({ cls := "com/example/object_access_rules/objectaccessrules/service/HttpRequest", name := "hasBody", desc := "()Z" } : Jvm.MethodName)) : Jvm.Cond).before a0 Z = true := hw _ (List.mem_of_getElem? (i := 72) rfl)
theorem wd73 {Z : State} {a0 : Array Value} (hw : ∀ d ∈ tables_1, d.before a0 Z = true) : ((Jvm.Cond.instanceMethod ({ cls := "com/example/object_access_rules/objectaccessrules/service/HttpRequest", name := "hasBody", desc := "()Z" } : Jvm.MethodName)) : Jvm.Cond).before a0 Z = true := hw _ (List.mem_of_getElem? (i := 73) rfl)
theorem own_and255 (y : Int32) : ¬ (y &&& (255 : Int32)).toUInt32.toUInt16.toUInt32.toInt32 < 0 ∧ ¬ (255 : Int32) < (y &&& (255 : Int32)).toUInt32.toUInt16.toUInt32.toInt32 := by
  have t : ∀ k : Fin 256, ¬ (Int32.ofNat k.val).toUInt32.toUInt16.toUInt32.toInt32 < 0 ∧ ¬ (255 : Int32) < (Int32.ofNat k.val).toUInt32.toUInt16.toUInt32.toInt32 := by decide +kernel
  have h : (y &&& 255).toBitVec.toNat < 256 := by
    simp only [Int32.toBitVec_and, BitVec.toNat_and]
    exact Nat.lt_succ_of_le Nat.and_le_right
  have e : y &&& 255 = Int32.ofNat (y &&& 255).toBitVec.toNat := by
    apply Int32.toBitVec_inj.mp
    apply BitVec.eq_of_toNat_eq
    simp only [Int32.toBitVec_ofNat', BitVec.toNat_ofNat]
    omega
  rw [e]
  exact t ⟨_, h⟩
theorem own_cases256 {c : Int32} (h : ¬ c < 0 ∧ ¬ (255 : Int32) < c) : ∃ k : Fin 256, c = Int32.ofNat k.val := by
  have h1 : 0 ≤ c.toInt := by have := h.1; rw [Int32.lt_iff_toInt_lt] at this; simpa using this
  have h2 : c.toInt ≤ 255 := by have := h.2; rw [Int32.lt_iff_toInt_lt] at this; have e : (255 : Int32).toInt = 255 := rfl; omega
  refine ⟨⟨c.toInt.toNat, by omega⟩, ?_⟩
  apply Int32.toInt_inj.mp
  rw [Int32.toInt_ofNat_small (by show c.toInt.toNat < 2 ^ 31; omega)]
  show c.toInt = (c.toInt.toNat : Int)
  omega
theorem own_narc {c : Int32} (h : ¬ c < 0 ∧ ¬ (255 : Int32) < c) : nar .char c = c := by
  obtain ⟨k, rfl⟩ := own_cases256 h
  have t : ∀ k : Fin 256, nar .char (Int32.ofNat k.val) = Int32.ofNat k.val := by decide +kernel
  exact t k
theorem own_fitc {c : Int32} (h : ¬ c < 0 ∧ ¬ (255 : Int32) < c) : fits .char (.int c) = true := by
  have q := fits_nar_char c
  rw [own_narc h] at q
  exact q
theorem own_pos {q z : Int64} (hz : z = (if q < (-1 : Int64) then (q &&& (9223372036854775807 : Int64)) else q)) (h1 : ¬ (z = (-1 : Int64))) (h2 : ¬ (z = (0 : Int64))) : (0 : Int64) < z := by
  have e1 : (-1 : Int64).toInt = -1 := rfl
  have e0 : (0 : Int64).toInt = 0 := rfl
  have hge : -1 ≤ z.toInt := by
    rw [hz]
    split
    · rw [c_maskL q 9223372036854775807 63 (by decide) (by decide)]
      have := Int.emod_nonneg q.toInt (b := ((2 ^ 63 : Nat) : Int)) (by decide)
      omega
    · rename_i h
      rw [Int64.lt_iff_toInt_lt, e1] at h
      omega
  rw [Int64.lt_iff_toInt_lt, e0]
  have n1 : z.toInt ≠ -1 := fun h => h1 (Int64.toInt_inj.mp (h.trans e1.symm))
  have n0 : z.toInt ≠ 0 := fun h => h2 (Int64.toInt_inj.mp (h.trans e0.symm))
  omega
def Q_own_rec (Z : State) (a : Addr) (h0 : Heap) (n0 : Nat) (v : Option Value) (h : Heap) (L : List Loc) : Prop := v = none ∧ L = [] ∧ h = h0
set_option maxRecDepth 65536 in
set_option maxHeartbeats 40000000 in
theorem own_rec (l : Launch) (Z : State) (a0 : Array Value) (hw : ∀ d ∈ tables_1, d.before a0 Z = true) (ws : List Jvm.Cond) (a : Addr) (h0 : Heap) (n0 : Nat) (O0 : Old Z n0 h0) :
    MetFree l mt0 (head1 (Jvm.Cond.code mt0 jdk_30_method_1_code 1 none :: ws) ({ frames := 1, cells := 0, slots := 0, locals := 12 } : Room)) (fun aq U => aq = #[(.ref a)] ∧ Z.Warmed39 U.vm ∧ U.heap = h0) (fun _ _ _ _ _ => True) (fun _ U o U' => ∃ v L, o = .returned v ∧ Q_own_rec Z a h0 n0 v U'.heap L ∧ FrameEnd U o U' L ({ frames := 1, cells := 0, slots := 0, locals := 12 } : Room).cells ({ frames := 1, cells := 0, slots := 0, locals := 12 } : Room).slots) := by
  refine MetFree.of_bodySF (plainFor_of_name pn_java_lang_Record) hisR ?_
  intro p e s m args below meth c s₁ Bd hml0 hP hK
  obtain ⟨rfl, hZ, hh⟩ := hP
  have hx := Bd.exec
  have hby := Bd.bytes
  have hml : c.maxLocals = 1 := hml0
  have hown : s.vm.findClass "java/lang/Record" = some m.cls := findClass_of_methodNamed Bd.named
  have hnm := (name_of_methodNamed Bd.named Bd.method).1
  have X0 : Stand p l e ({ frames := 1, cells := 0, slots := 0, locals := 12 } : Room) s m #[(.ref a)] below meth c s₁ [] 0 0 := Stand.of_body Bd
  have e0 : s₁.heap = h0 := by rw [← hh, Bd.state]; rfl
  have N0 := Fr.nil n0
  have zO := O0.1
  have zO2 := O0.2.1
  refine own_open (own_via (S' := s₁.setTop (mkF m 0 #[.val (.ref a)] [])) (fun t k => castTop (ef_own_rec m a) k) ?_)
  refine own_via (S' := s₁.setTop (mkF m 1 #[.val (.ref a)] [(.ref a)])) (fun t k => XS.aloadN X0.here hx rfl (hb hby d12_0) rfl rfl k) ?_
  obtain ⟨T1, X1, e1, st1⟩ := initO X0 hx hZ hown (wd56 hw) (wd13 hw) (wd14 hw) e0 (g := (mkF m 1 #[.val (.ref a)] [(.ref a)])) rfl (by rw [hml]; rfl) rfl (hb hby d12_1) (by decide) (W := 0) (by show 2 * 0 + _ ≤ _; exact Nat.le_of_eq rfl) (by decide)
  refine own_via (S' := T1.setTop (mkF m 4 #[.val (.ref a)] [])) st1 ?_
  refine own_ret (Q := Q_own_rec Z a h0 n0) (C := ({ frames := 1, cells := 0, slots := 0, locals := 12 } : Room).cells) (N := ({ frames := 1, cells := 0, slots := 0, locals := 12 } : Room).slots) X1 (v := none) (fun _ => rfl) Bd.notSynchronized ?_ (by decide) (by decide) (fun fs hr => X1.returnOut hx Bd.returns (hb hby d12_4) hr)
  show Q_own_rec Z a h0 n0 _ T1.heap _
  rw [e1]
  exact ⟨rfl, rfl, rfl⟩
def Q_own_canEnc (Z : State) (c1 : Int32) (h0 : Heap) (n0 : Nat) (v : Option Value) (h : Heap) (L : List Loc) : Prop := ∃ z : Int32, v = some (.int z) ∧ L = [] ∧ h = h0 ∧ (z = (if (255 : Int32) < c1 then (0 : Int32) else (1 : Int32)))
set_option maxRecDepth 65536 in
set_option maxHeartbeats 40000000 in
theorem own_canEnc (l : Launch) (Z : State) (a0 : Array Value) (hw : ∀ d ∈ tables_1, d.before a0 Z = true) (ws : List Jvm.Cond) (c1 : Int32) (h0 : Heap) (n0 : Nat) (O0 : Old Z n0 h0) :
    MetFree l mt1 (head1 (Jvm.Cond.code mt1 jdk_43_method_3_code 1 (some .boolean) :: ws) ({ frames := 0, cells := 0, slots := 0, locals := 0 } : Room)) (fun aq U => aq = #[(.int c1)] ∧ Z.Warmed39 U.vm ∧ U.heap = h0) (fun _ _ _ _ _ => True) (fun _ U o U' => ∃ v L, o = .returned v ∧ Q_own_canEnc Z c1 h0 n0 v U'.heap L ∧ FrameEnd U o U' L ({ frames := 0, cells := 0, slots := 0, locals := 0 } : Room).cells ({ frames := 0, cells := 0, slots := 0, locals := 0 } : Room).slots) := by
  refine MetFree.of_bodySF (plainFor_of_name pn_java_lang_StringLatin1) hisR ?_
  intro p e s m args below meth c s₁ Bd hml0 hP hK
  obtain ⟨rfl, hZ, hh⟩ := hP
  have hx := Bd.exec
  have hby := Bd.bytes
  have hml : c.maxLocals = 1 := hml0
  have hown : s.vm.findClass "java/lang/StringLatin1" = some m.cls := findClass_of_methodNamed Bd.named
  have hnm := (name_of_methodNamed Bd.named Bd.method).1
  have X0 : Stand p l e ({ frames := 0, cells := 0, slots := 0, locals := 0 } : Room) s m #[(.int c1)] below meth c s₁ [] 0 0 := Stand.of_body Bd
  have e0 : s₁.heap = h0 := by rw [← hh, Bd.state]; rfl
  have N0 := Fr.nil n0
  have zO := O0.1
  have zO2 := O0.2.1
  refine own_open (own_via (S' := s₁.setTop (mkF m 0 #[.val (.int c1)] [])) (fun t k => castTop (ef_own_canEnc m c1) k) ?_)
  refine own_via (S' := s₁.setTop (mkF m 1 #[.val (.int c1)] [(.int c1)])) (fun t k => XS.iloadN X0.here hx rfl (hb hby d8_0) rfl k) ?_
  refine own_via (S' := s₁.setTop (mkF m 4 #[.val (.int c1)] [(.int (255 : Int32)), (.int c1)])) (fun t k => XS.sipush X0.here hx rfl (hb hby d8_1) k) ?_
  by_cases hc4_1 : (255 : Int32) < c1
  · -- yes
    refine own_via (S' := s₁.setTop (mkF m 11 #[.val (.int c1)] [])) (fun t k => XS.icmpYes X0.here hx rfl (pc0 := 4) (pc' := 11) rfl (hb hby d8_4) rfl (tlt hc4_1).2.2.1 (by decide) (by decide) k) ?_
    refine own_via (S' := s₁.setTop (mkF m 12 #[.val (.int c1)] [(.int (0 : Int32))])) (fun t k => XS.iconst X0.here hx rfl (hb hby d8_11) k) ?_
    refine own_ret (Q := Q_own_canEnc Z c1 h0 n0) (C := ({ frames := 0, cells := 0, slots := 0, locals := 0 } : Room).cells) (N := ({ frames := 0, cells := 0, slots := 0, locals := 0 } : Room).slots) X0 (v := some (.int (0 : Int32))) (fun h => by rw [Bd.returns] at h; cases h) Bd.notSynchronized ?_ (by decide) (by decide) (fun fs hr => retN X0 hx (t := .boolean) Bd.returns (by simp) (hb hby d8_12) hr)
    show Q_own_canEnc Z c1 h0 n0 _ s₁.heap _
    rw [e0]
    exact ⟨(0 : Int32), rfl, rfl, rfl, ((if_pos hc4_1)).symm⟩
  · -- no
    refine own_via (S' := s₁.setTop (mkF m 7 #[.val (.int c1)] [])) (fun t k => XS.icmpNo X0.here hx rfl (hb hby d8_4) rfl (flt hc4_1).2.2.1 k) ?_
    refine own_via (S' := s₁.setTop (mkF m 8 #[.val (.int c1)] [(.int (1 : Int32))])) (fun t k => XS.iconst X0.here hx rfl (hb hby d8_7) k) ?_
    refine own_via (S' := s₁.setTop (mkF m 12 #[.val (.int c1)] [(.int (1 : Int32))])) (fun t k => XS.goto X0.here hx rfl (pc0 := 8) (pc' := 12) rfl (hb hby d8_8) (by decide) (by decide) k) ?_
    refine own_ret (Q := Q_own_canEnc Z c1 h0 n0) (C := ({ frames := 0, cells := 0, slots := 0, locals := 0 } : Room).cells) (N := ({ frames := 0, cells := 0, slots := 0, locals := 0 } : Room).slots) X0 (v := some (.int (1 : Int32))) (fun h => by rw [Bd.returns] at h; cases h) Bd.notSynchronized ?_ (by decide) (by decide) (fun fs hr => retN X0 hx (t := .boolean) Bd.returns (by simp) (hb hby d8_12) hr)
    show Q_own_canEnc Z c1 h0 n0 _ s₁.heap _
    rw [e0]
    exact ⟨(1 : Int32), rfl, rfl, rfl, ((if_neg hc4_1)).symm⟩
def Q_own_toBytes (Z : State) (c1 : Int32) (h0 : Heap) (n0 : Nat) (v : Option Value) (h : Heap) (L : List Loc) : Prop := ∃ b : Addr, ∃ kb : ClassId, v = some (.ref b) ∧ Fr n0 L ∧ Keep h0 h [] ∧ Arv Z h b kb .byte (1 : Int32) [(.int (nar .byte (c1.toInt8.toInt32)))] (.int (0 : Int32))
set_option maxRecDepth 65536 in
set_option maxHeartbeats 40000000 in
theorem own_toBytes (l : Launch) (Z : State) (a0 : Array Value) (hw : ∀ d ∈ tables_1, d.before a0 Z = true) (ws : List Jvm.Cond) (c1 : Int32) (h0 : Heap) (n0 : Nat) (O0 : Old Z n0 h0) :
    MetFree l mt2 (head1 (Jvm.Cond.code mt2 jdk_43_method_46_code 1 (some (.array .byte)) :: ws) ({ frames := 0, cells := 1, slots := 1, locals := 0 } : Room)) (fun aq U => aq = #[(.int c1)] ∧ Z.Warmed39 U.vm ∧ U.heap = h0) (fun _ _ _ _ _ => True) (fun _ U o U' => ∃ v L, o = .returned v ∧ Q_own_toBytes Z c1 h0 n0 v U'.heap L ∧ FrameEnd U o U' L ({ frames := 0, cells := 1, slots := 1, locals := 0 } : Room).cells ({ frames := 0, cells := 1, slots := 1, locals := 0 } : Room).slots) := by
  refine MetFree.of_bodySF (plainFor_of_name pn_java_lang_StringLatin1) hisR ?_
  intro p e s m args below meth c s₁ Bd hml0 hP hK
  obtain ⟨rfl, hZ, hh⟩ := hP
  have hx := Bd.exec
  have hby := Bd.bytes
  have hml : c.maxLocals = 1 := hml0
  have hown : s.vm.findClass "java/lang/StringLatin1" = some m.cls := findClass_of_methodNamed Bd.named
  have hnm := (name_of_methodNamed Bd.named Bd.method).1
  have X0 : Stand p l e ({ frames := 0, cells := 1, slots := 1, locals := 0 } : Room) s m #[(.int c1)] below meth c s₁ [] 0 0 := Stand.of_body Bd
  have e0 : s₁.heap = h0 := by rw [← hh, Bd.state]; rfl
  have N0 := Fr.nil n0
  have zO := O0.1
  have zO2 := O0.2.1
  refine own_open (own_via (S' := s₁.setTop (mkF m 0 #[.val (.int c1)] [])) (fun t k => castTop (ef_own_toBytes m c1) k) ?_)
  have K0 : Keep h0 h0 [] := Keep.refl _ _
  refine own_via (S' := s₁.setTop (mkF m 1 #[.val (.int c1)] [(.int (1 : Int32))])) (fun t k => XS.iconst X0.here hx rfl (hb hby d9_0) k) ?_
  obtain ⟨T1, h1, k1, X1, e1, E1, A1, st1⟩ := newP (aty := .byte) X0 hx hZ (wd20 hw) e0 (g := (mkF m 1 #[.val (.int c1)] [(.int (1 : Int32))])) rfl (hb hby d9_1) rfl (by decide : ¬ ((1 : Int32) < (0 : Int32))) (cap := 1) (by decide) (by decide) (by decide) (by decide)
  obtain ⟨b1, g1⟩ : ∃ z, z = h0.size := ⟨_, rfl⟩
  rw [← g1] at A1 st1
  have lt_b1 : h1.size > b1 := A1.lt
  have sz2 : h0.size ≤ h1.size := E1.1
  have O3 : Old Z n0 h1 := O0.ext E1
  have K4 : Keep h0 h1 [] := K0.ext E1
  have V1 : Arv Z h1 b1 k1 .byte (1 : Int32) [(.int (0 : Int32))] (.int (0 : Int32)) := (Arv.new A1 (by decide)).pad (pad_rep [] (.int (0 : Int32)) 1)
  refine own_via (S' := T1.setTop (mkF m 3 #[.val (.int c1)] [(.ref b1)])) st1 ?_
  refine own_via (S' := T1.setTop (mkF m 4 #[.val (.int c1)] [(.ref b1), (.ref b1)])) (fun t k => XS.dup X1.here hx rfl (hb hby d9_3) rfl rfl k) ?_
  refine own_via (S' := T1.setTop (mkF m 5 #[.val (.int c1)] [(.int (0 : Int32)), (.ref b1), (.ref b1)])) (fun t k => XS.iconst X1.here hx rfl (hb hby d9_4) k) ?_
  refine own_via (S' := T1.setTop (mkF m 6 #[.val (.int c1)] [(.int c1), (.int (0 : Int32)), (.ref b1), (.ref b1)])) (fun t k => XS.iloadN X1.here hx rfl (hb hby d9_5) rfl k) ?_
  refine own_via (S' := T1.setTop (mkF m 7 #[.val (.int c1)] [(.int (c1.toInt8.toInt32)), (.int (0 : Int32)), (.ref b1), (.ref b1)])) (fun t k => XS.i2b X1.here hx rfl (hb hby d9_6) rfl k) ?_
  obtain ⟨cl5, Ar5, q5, S5, M5, H5, U5⟩ := id V1
  obtain ⟨T5, h5, X5, e5, W5, st5⟩ := stB X1 hx hZ e1 Ar5 (j := (0 : Int32)) (inb_of S5 ⟨by decide, by decide⟩) (g := (mkF m 7 #[.val (.int c1)] [(.int (c1.toInt8.toInt32)), (.int (0 : Int32)), (.ref b1), (.ref b1)])) rfl rfl (hb hby d9_7)
  have sz6 : h1.size ≤ h5.size := Nat.le_of_eq W5.size.symm
  have O7 : Old Z n0 h5 := O3.wr W5 (by omega : n0 ≤ b1)
  have N5 := Fr.snoc X5 N0 (by omega : n0 ≤ b1)
  have K8 : Keep h0 h5 [] := K4.wr W5 (Or.inr (by omega : h0.size ≤ b1))
  have V5 : Arv Z h5 b1 k1 .byte (1 : Int32) [(.int (nar .byte (c1.toInt8.toInt32)))] (.int (0 : Int32)) := Arv.set Ar5 q5 S5 M5 H5 U5 (fits_nar_byte _) W5 0 rfl (Nat.le_of_ble_eq_true rfl)
  refine own_via (S' := T5.setTop (mkF m 8 #[.val (.int c1)] [(.ref b1)])) st5 ?_
  refine own_ret (Q := Q_own_toBytes Z c1 h0 n0) (C := ({ frames := 0, cells := 1, slots := 1, locals := 0 } : Room).cells) (N := ({ frames := 0, cells := 1, slots := 1, locals := 0 } : Room).slots) X5 (v := some (.ref b1)) (fun h => by rw [Bd.returns] at h; cases h) Bd.notSynchronized ?_ (by decide) (by decide) (fun fs hr => retOut X5 hx Bd.returns rfl (Or.inr (Or.inr (Or.inr (Or.inr ⟨rfl, rfl, rfl⟩)))) (hb hby d9_8) hr)
  show Q_own_toBytes Z c1 h0 n0 _ T5.heap _
  rw [e5]
  exact ⟨b1, k1, rfl, N5, K8, V5⟩
def Q_own_strBB (Z : State) (a : Addr) (tb : Addr) (h0 : Heap) (n0 : Nat) (v : Option Value) (h : Heap) (L : List Loc) : Prop := v = none ∧ Fr n0 L ∧ Keep h0 h [a] ∧ Fld Z h a "java/lang/String" "value" "[B" (.ref tb) ∧ Fld Z h a "java/lang/String" "coder" "B" (.int (0 : Int32))
set_option maxRecDepth 65536 in
set_option maxHeartbeats 40000000 in
theorem own_strBB (l : Launch) (Z : State) (a0 : Array Value) (hw : ∀ d ∈ tables_1, d.before a0 Z = true) (ws : List Jvm.Cond) (a : Addr) (tb : Addr) (h0 : Heap) (n0 : Nat) (O0 : Old Z n0 h0) (f0_E_a : Exa Z h0 a "java/lang/String") (f0_F_a_value : Fld Z h0 a "java/lang/String" "value" "[B" .null) (f0_F_a_coder : Fld Z h0 a "java/lang/String" "coder" "B" (.int (0 : Int32))) (g_a : n0 ≤ a) :
    MetFree l mt3 (head1 (Jvm.Cond.code mt3 jdk_42_method_151_code 3 none :: ws) ({ frames := 1, cells := 0, slots := 0, locals := 12 } : Room)) (fun aq U => aq = #[(.ref a), (.ref tb), (.int (0 : Int32))] ∧ Z.Warmed39 U.vm ∧ U.heap = h0) (fun _ _ _ _ _ => True) (fun _ U o U' => ∃ v L, o = .returned v ∧ Q_own_strBB Z a tb h0 n0 v U'.heap L ∧ FrameEnd U o U' L ({ frames := 1, cells := 0, slots := 0, locals := 12 } : Room).cells ({ frames := 1, cells := 0, slots := 0, locals := 12 } : Room).slots) := by
  refine MetFree.of_bodySF (plainFor_of_name pn_java_lang_String) hisR ?_
  intro p e s m args below meth c s₁ Bd hml0 hP hK
  obtain ⟨rfl, hZ, hh⟩ := hP
  have hx := Bd.exec
  have hby := Bd.bytes
  have hml : c.maxLocals = 3 := hml0
  have hown : s.vm.findClass "java/lang/String" = some m.cls := findClass_of_methodNamed Bd.named
  have hnm := (name_of_methodNamed Bd.named Bd.method).1
  have X0 : Stand p l e ({ frames := 1, cells := 0, slots := 0, locals := 12 } : Room) s m #[(.ref a), (.ref tb), (.int (0 : Int32))] below meth c s₁ [] 0 0 := Stand.of_body Bd
  have e0 : s₁.heap = h0 := by rw [← hh, Bd.state]; rfl
  have N0 := Fr.nil n0
  have zO := O0.1
  have zO2 := O0.2.1
  have fl_E_a : h0.size > a := f0_E_a.lt
  have fl_F_a_value : h0.size > a := f0_F_a_value.lt
  have fl_F_a_coder : h0.size > a := f0_F_a_coder.lt
  refine own_open (own_via (S' := s₁.setTop (mkF m 0 #[.val (.ref a), .val (.ref tb), .val (.int (0 : Int32))] [])) (fun t k => castTop (ef_own_strBB m a tb (0 : Int32)) k) ?_)
  have K0 : Keep h0 h0 [a] := Keep.refl _ _
  refine own_via (S' := s₁.setTop (mkF m 1 #[.val (.ref a), .val (.ref tb), .val (.int (0 : Int32))] [(.ref a)])) (fun t k => XS.aloadN X0.here hx rfl (hb hby d10_0) rfl rfl k) ?_
  obtain ⟨T1, X1, e1, st1⟩ := initO X0 hx hZ hown (wd12 hw) (wd13 hw) (wd14 hw) e0 (g := (mkF m 1 #[.val (.ref a), .val (.ref tb), .val (.int (0 : Int32))] [(.ref a)])) rfl (by rw [hml]; rfl) rfl (hb hby d10_1) (by decide) (W := 0) (by show 2 * 0 + _ ≤ _; exact Nat.le_of_eq rfl) (by decide)
  refine own_via (S' := T1.setTop (mkF m 4 #[.val (.ref a), .val (.ref tb), .val (.int (0 : Int32))] [])) st1 ?_
  refine own_via (S' := T1.setTop (mkF m 5 #[.val (.ref a), .val (.ref tb), .val (.int (0 : Int32))] [(.ref a)])) (fun t k => XS.aloadN X1.here hx rfl (hb hby d10_4) rfl rfl k) ?_
  refine own_via (S' := T1.setTop (mkF m 6 #[.val (.ref a), .val (.ref tb), .val (.int (0 : Int32))] [(.ref tb), (.ref a)])) (fun t k => XS.aloadN X1.here hx rfl (hb hby d10_5) rfl rfl k) ?_
  obtain ⟨T2, h2, X2, e2, W2, st2⟩ := putF X1 hx hZ hown (host := "") (Or.inl (wd29 hw)) Via.refl e1 f0_F_a_value f0_E_a (Or.inr ⟨(wd30 hw), rfl, hnm⟩) (wd3 hw) (ty := (.array .byte)) (by decide) rfl rfl (g := (mkF m 6 #[.val (.ref a), .val (.ref tb), .val (.int (0 : Int32))] [(.ref tb), (.ref a)])) rfl rfl (hb hby d10_6)
  have sz3 : h0.size ≤ h2.size := Nat.le_of_eq W2.size.symm
  have O4 : Old Z n0 h2 := O0.wr W2 (by omega : n0 ≤ a)
  have N2 := Fr.snoc X2 N0 (by omega : n0 ≤ a)
  have K5 : Keep h0 h2 [a] := K0.wr W2 (Or.inl (List.mem_of_getElem? (i := 0) rfl))
  have Fw2 : Fld Z h2 a "java/lang/String" "value" "[B" (.ref tb) := Fld.same W2 f0_F_a_value
  refine own_via (S' := T2.setTop (mkF m 9 #[.val (.ref a), .val (.ref tb), .val (.int (0 : Int32))] [])) st2 ?_
  refine own_via (S' := T2.setTop (mkF m 10 #[.val (.ref a), .val (.ref tb), .val (.int (0 : Int32))] [(.ref a)])) (fun t k => XS.aloadN X2.here hx rfl (hb hby d10_9) rfl rfl k) ?_
  refine own_via (S' := T2.setTop (mkF m 11 #[.val (.ref a), .val (.ref tb), .val (.int (0 : Int32))] [(.int (0 : Int32)), (.ref a)])) (fun t k => XS.iloadN X2.here hx rfl (hb hby d10_10) rfl k) ?_
  have cx6 : Exa Z h2 a "java/lang/String" := (Exa.wr W2 f0_E_a)
  have cx7 : Fld Z h2 a "java/lang/String" "coder" "B" (.int (0 : Int32)) := (Fld.other W2 f0_F_a_coder (Or.inr (slot_ne (Or.inr (wd28 hw)) (Or.inr (wd30 hw)) (by decide) (t := .byte) (t' := (.array .byte)) (by decide) (by decide))))
  obtain ⟨T8, h8, X8, e8, W8, st8⟩ := putFN X2 hx hZ hown (wd27 hw) Via.refl e2 cx7 cx6 (Or.inr ⟨(wd28 hw), rfl, hnm⟩) (wd3 hw) (ty := .byte) (v' := (.int (0 : Int32))) (by decide) rfl rfl (g := (mkF m 11 #[.val (.ref a), .val (.ref tb), .val (.int (0 : Int32))] [(.int (0 : Int32)), (.ref a)])) rfl rfl (hb hby d10_11)
  have sz9 : h2.size ≤ h8.size := Nat.le_of_eq W8.size.symm
  have O10 : Old Z n0 h8 := O4.wr W8 (by omega : n0 ≤ a)
  have N8 := Fr.snoc X8 N2 (by omega : n0 ≤ a)
  have K11 : Keep h0 h8 [a] := K5.wr W8 (Or.inl (List.mem_of_getElem? (i := 0) rfl))
  have Fw8 : Fld Z h8 a "java/lang/String" "coder" "B" (.int (0 : Int32)) := Fld.same W8 cx7
  refine own_via (S' := T8.setTop (mkF m 14 #[.val (.ref a), .val (.ref tb), .val (.int (0 : Int32))] [])) st8 ?_
  have cx12 : Fld Z h8 a "java/lang/String" "value" "[B" (.ref tb) := (Fld.other W8 Fw2 (Or.inr (slot_ne (Or.inr (wd30 hw)) (Or.inr (wd28 hw)) (by decide) (t := (.array .byte)) (t' := .byte) (by decide) (by decide))))
  refine own_ret (Q := Q_own_strBB Z a tb h0 n0) (C := ({ frames := 1, cells := 0, slots := 0, locals := 12 } : Room).cells) (N := ({ frames := 1, cells := 0, slots := 0, locals := 12 } : Room).slots) X8 (v := none) (fun _ => rfl) Bd.notSynchronized ?_ (by decide) (by decide) (fun fs hr => X8.returnOut hx Bd.returns (hb hby d10_14) hr)
  show Q_own_strBB Z a tb h0 n0 _ T8.heap _
  rw [e8]
  exact ⟨rfl, N8, K11, cx12, Fw8⟩
def Q_own_valueOf (Z : State) (c1 : Int32) (zc : Int32) (h0 : Heap) (n0 : Nat) (v : Option Value) (h : Heap) (L : List Loc) : Prop := ∃ b : Addr, v = some (.ref b) ∧ Fr n0 L ∧ Keep h0 h [] ∧ Exa Z h b "java/lang/String"
set_option maxRecDepth 65536 in
set_option maxHeartbeats 40000000 in
theorem own_valueOf (l : Launch) (Z : State) (a0 : Array Value) (hw : ∀ d ∈ tables_1, d.before a0 Z = true) (ws : List Jvm.Cond) (c1 : Int32) (zc : Int32) (h0 : Heap) (n0 : Nat) (O0 : Old Z n0 h0) (zf_S_java_lang_String_COMPACT_STRINGS : Sta Z Z.heap "java/lang/String" "COMPACT_STRINGS" "Z" (.int zc)) (hzc : ¬ (zc = (0 : Int32))) (rng : ¬ c1 < 0 ∧ ¬ (255 : Int32) < c1) :
    MetFree l mt4 (head1 (Jvm.Cond.code mt4 jdk_42_method_139_code 1 (some (.object "java/lang/String")) :: ws) ({ frames := 2, cells := 2, slots := 5, locals := 27 } : Room)) (fun aq U => aq = #[(.int c1)] ∧ Z.Warmed39 U.vm ∧ U.heap = h0) (fun _ _ _ _ _ => True) (fun _ U o U' => ∃ v L, o = .returned v ∧ Q_own_valueOf Z c1 zc h0 n0 v U'.heap L ∧ FrameEnd U o U' L ({ frames := 2, cells := 2, slots := 5, locals := 27 } : Room).cells ({ frames := 2, cells := 2, slots := 5, locals := 27 } : Room).slots) := by
  refine MetFree.of_bodySF (plainFor_of_name pn_java_lang_String) hisR ?_
  intro p e s m args below meth c s₁ Bd hml0 hP hK
  obtain ⟨rfl, hZ, hh⟩ := hP
  have hx := Bd.exec
  have hby := Bd.bytes
  have hml : c.maxLocals = 1 := hml0
  have hown : s.vm.findClass "java/lang/String" = some m.cls := findClass_of_methodNamed Bd.named
  have hnm := (name_of_methodNamed Bd.named Bd.method).1
  have X0 : Stand p l e ({ frames := 2, cells := 2, slots := 5, locals := 27 } : Room) s m #[(.int c1)] below meth c s₁ [] 0 0 := Stand.of_body Bd
  have e0 : s₁.heap = h0 := by rw [← hh, Bd.state]; rfl
  have N0 := Fr.nil n0
  have zO := O0.1
  have zO2 := O0.2.1
  refine own_open (own_via (S' := s₁.setTop (mkF m 0 #[.val (.int c1)] [])) (fun t k => castTop (ef_own_valueOf m c1) k) ?_)
  have K0 : Keep h0 h0 [] := Keep.refl _ _
  have cx1 : Sta Z h0 "java/lang/String" "COMPACT_STRINGS" "Z" (.int zc) := zf_S_java_lang_String_COMPACT_STRINGS.ext O0.2
  obtain ⟨T2, X2, e2, st2⟩ := getS2 X0 hx hZ hown (host := "") (Or.inl (wd15 hw)) Via.refl e0 cx1 (g := (mkF m 0 #[.val (.int c1)] [])) rfl (hb hby d7_0)
  refine own_via (S' := T2.setTop (mkF m 3 #[.val (.int c1)] [(.int zc)])) st2 ?_
  refine own_via (S' := T2.setTop (mkF m 6 #[.val (.int c1)] [])) (fun t k => XS.ifNo X2.here hx rfl (hb hby d7_3) rfl ((if0 _ _).trans (feq hzc).1) k) ?_
  refine own_via (S' := T2.setTop (mkF m 7 #[.val (.int c1)] [(.int c1)])) (fun t k => XS.iloadN X2.here hx rfl (hb hby d7_6) rfl k) ?_
  obtain ⟨_, _, ⟨T3, Lp3, kp3, np3⟩, -, X3, ⟨Lc3, hQ3, l3, y3, z3⟩, st3⟩ := Jvm.LawKit.callS X2 hx (y := mt1) hown (mvT hZ (wd34 hw)) (mvT hZ (wd35 hw)) (mvT hZ (wd36 hw)) (mvT hZ (wd37 hw)) (by decide) (backOf (W := 0) (own_canEnc l Z a0 hw [] c1 h0 n0 O0) hZ (wd37 hw) (wd36 hw) (by decide) (by decide)) (g := (mkF m 7 #[.val (.int c1)] [(.int c1)])) rfl (by rw [hml]; rfl) (argsL := [(.int c1)]) (rest := []) (lenOf pd__C_Z_238 rfl) rfl (by show 2 * 0 + _ ≤ _; exact Nat.le_of_eq rfl) (hb hby d7_7) (fun _ _ => ⟨rfl, e2, (by decide : 0 + 0 ≤ _), (by decide : 0 + 0 ≤ _)⟩)
  dsimp only [Pt.U, Pt.locs, Pt.cells, Pt.slots] at X3 l3 y3 z3 st3 hQ3
  subst Lp3 kp3 np3
  obtain ⟨z3, rfl, rfl, e3, hz3_0⟩ := hQ3
  try rw [List.append_nil] at X3
  refine own_via (S' := T3.setTop (mkF m 10 #[.val (.int c1)] [(.int z3)])) st3 ?_
  obtain rfl : z3 = (1 : Int32) := hz3_0.trans (if_neg rng.2)
  refine own_via (S' := T3.setTop (mkF m 13 #[.val (.int c1)] [])) (fun t k => XS.ifNo X3.here hx rfl (hb hby d7_10) rfl ((if0 _ _).trans (feq (by decide : ¬ ((1 : Int32) = (0 : Int32)))).1) k) ?_
  obtain ⟨T5, h5, X5, e5, E5, A5, D5, -, st5⟩ := newO X3 hx hZ hown (wd38 hw) (wd3 hw) (wd4 hw) e3 (g := (mkF m 13 #[.val (.int c1)] [])) rfl (hb hby d7_13) (by decide) (by decide)
  obtain ⟨b5, g5⟩ : ∃ z, z = h0.size := ⟨_, rfl⟩
  rw [← g5] at A5 D5 st5
  have lt_b5 : h5.size > b5 := A5.lt
  have sz6 : h0.size ≤ h5.size := E5.1
  have O7 : Old Z n0 h5 := O0.ext E5
  have K8 : Keep h0 h5 [] := K0.ext E5
  have F5_coder : Fld Z h5 b5 "java/lang/String" "coder" "B" (.int (0 : Int32)) := D5 (Or.inr (wd28 hw)) (ty := .byte) (by decide)
  have F5_value : Fld Z h5 b5 "java/lang/String" "value" "[B" .null := D5 (Or.inr (wd30 hw)) (ty := (.array .byte)) (by decide)
  refine own_via (S' := T5.setTop (mkF m 16 #[.val (.int c1)] [(.ref b5)])) st5 ?_
  refine own_via (S' := T5.setTop (mkF m 17 #[.val (.int c1)] [(.ref b5), (.ref b5)])) (fun t k => XS.dup X5.here hx rfl (hb hby d7_16) rfl rfl k) ?_
  refine own_via (S' := T5.setTop (mkF m 18 #[.val (.int c1)] [(.int c1), (.ref b5), (.ref b5)])) (fun t k => XS.iloadN X5.here hx rfl (hb hby d7_17) rfl k) ?_
  obtain ⟨_, _, ⟨T9, Lp9, kp9, np9⟩, -, X9, ⟨Lc9, hQ9, l9, y9, z9⟩, st9⟩ := Jvm.LawKit.callS X5 hx (y := mt2) hown (mvT hZ (wd39 hw)) (mvT hZ (wd40 hw)) (mvT hZ (wd36 hw)) (mvT hZ (wd41 hw)) (by decide) (backOf (W := 2) (own_toBytes l Z a0 hw [] c1 h5 n0 O7) hZ (wd41 hw) (wd36 hw) (by decide) (by decide)) (g := (mkF m 18 #[.val (.int c1)] [(.int c1), (.ref b5), (.ref b5)])) rfl (by rw [hml]; rfl) (argsL := [(.int c1)]) (rest := [(.ref b5), (.ref b5)]) (lenOf pd__C__B_305 rfl) rfl (by show 2 * 0 + _ ≤ _; exact Nat.le_of_eq rfl) (hb hby d7_18) (fun _ _ => ⟨rfl, e5, (by decide : 1 + 1 ≤ _), (by decide : 4 + 1 ≤ _)⟩)
  dsimp only [Pt.U, Pt.locs, Pt.cells, Pt.slots] at X9 l9 y9 z9 st9 hQ9
  subst Lp9 kp9 np9
  obtain ⟨b9, kb9, rfl, N9q, K9q, f9_0⟩ := hQ9
  have N9 := Fr.app N0 N9q
  have sz10 : h5.size ≤ T9.heap.size := K9q.1
  have O11 : Old Z n0 T9.heap := O7.keep K9q all0
  have K12 : Keep h0 T9.heap [] := K8.trans K9q all0
  have lt13_b9 : T9.heap.size > b9 := f9_0.lt
  refine own_via (S' := T9.setTop (mkF m 21 #[.val (.int c1)] [(.ref b9), (.ref b5), (.ref b5)])) st9 ?_
  refine own_via (S' := T9.setTop (mkF m 22 #[.val (.int c1)] [(.int (0 : Int32)), (.ref b9), (.ref b5), (.ref b5)])) (fun t k => XS.iconst X9.here hx rfl (hb hby d7_21) k) ?_
  have cx15 : Exa Z T9.heap b5 "java/lang/String" := (A5.keep K9q)
  have cx16 : Fld Z T9.heap b5 "java/lang/String" "value" "[B" .null := (F5_value.keep K9q nin0)
  have cx17 : Fld Z T9.heap b5 "java/lang/String" "coder" "B" (.int (0 : Int32)) := (F5_coder.keep K9q nin0)
  obtain ⟨_, _, ⟨T14, Lp14, kp14, np14⟩, -, X14, ⟨Lc14, hQ14, l14, y14, z14⟩, st14⟩ := X9.specialBack hx (y := mt3) rfl hown (mvT hZ (wd42 hw)) (mvT hZ (wd43 hw)) (mvT hZ (wd44 hw)) (by decide) (backOf (W := 1) (own_strBB l Z a0 hw [] b5 b9 T9.heap n0 O11 cx15 cx16 cx17 (by first | assumption | exact Ne.symm (by assumption) | omega | decide | exact Nat.le_of_ble_eq_true rfl)) hZ (wd44 hw) (wd4 hw) (by decide) (by decide)) (g := (mkF m 22 #[.val (.int c1)] [(.int (0 : Int32)), (.ref b9), (.ref b5), (.ref b5)])) rfl (by rw [hml]; rfl) (Steps.refl _) (a := b5) (argsL := [(.ref b9), (.int (0 : Int32))]) (rest := [(.ref b5)]) (lenOf pd___BB_V_390 rfl) rfl (by show 2 * 0 + _ ≤ _; exact Nat.le_of_eq rfl) (hb hby d7_22) (fun _ _ => ⟨rfl, rfl, (by decide : 2 + 0 ≤ _), (by decide : 5 + 0 ≤ _)⟩)
  dsimp only [Pt.U, Pt.locs, Pt.cells, Pt.slots] at X14 l14 y14 z14 st14 hQ14
  subst Lp14 kp14 np14
  obtain ⟨rfl, N14q, K14q, f14_0, f14_1⟩ := hQ14
  have N14 := Fr.app N9 N14q
  have sz18 : T9.heap.size ≤ T14.heap.size := K14q.1
  have O19 : Old Z n0 T14.heap := O11.keep K14q (allS (by omega : n0 ≤ b5) all0)
  have K20 : Keep h0 T14.heap [] := K12.trans K14q (allS (P := fun x => x ∈ [] ∨ h0.size ≤ x) (Or.inr (by omega)) all0)
  refine own_tr (S' := T14.setTop (mkF m 25 #[.val (.int c1)] [(.ref b5)])) st14 ?_
  have cx21 : Exa Z T14.heap b5 "java/lang/String" := (cx15.keep K14q)
  refine own_ret (Q := Q_own_valueOf Z c1 zc h0 n0) (C := ({ frames := 2, cells := 2, slots := 5, locals := 27 } : Room).cells) (N := ({ frames := 2, cells := 2, slots := 5, locals := 27 } : Room).slots) X14 (v := some (.ref b5)) (fun h => by rw [Bd.returns] at h; cases h) Bd.notSynchronized ?_ (by decide) (by decide) (fun fs hr => retOut X14 hx Bd.returns rfl (Or.inr (Or.inr (Or.inr (Or.inr ⟨rfl, rfl, rfl⟩)))) (hb hby d7_25) hr)
  show Q_own_valueOf Z c1 zc h0 n0 _ T14.heap _
  exact ⟨b5, rfl, N14, K20, cx21⟩
def Q_own_hrN (Z : State) (a : Addr) (w1 : Addr) (w2 : Addr) (q : Int64) (c1 : Int32) (c2 : Int32) (c3 : Int32) (h0 : Heap) (n0 : Nat) (v : Option Value) (h : Heap) (L : List Loc) : Prop := v = none ∧ Fr n0 L ∧ Keep h0 h [a] ∧ Fld Z h a "com/example/object_access_rules/objectaccessrules/service/HttpRequest" "contentLength" "J" (.long q) ∧ Fld Z h a "com/example/object_access_rules/objectaccessrules/service/HttpRequest" "chunked" "Z" (.int (nar .boolean c1))
set_option maxRecDepth 65536 in
set_option maxHeartbeats 40000000 in
theorem own_hrN (l : Launch) (Z : State) (a0 : Array Value) (hw : ∀ d ∈ tables_1, d.before a0 Z = true) (ws : List Jvm.Cond) (a : Addr) (w1 : Addr) (w2 : Addr) (q : Int64) (c1 : Int32) (c2 : Int32) (c3 : Int32) (h0 : Heap) (n0 : Nat) (O0 : Old Z n0 h0) (f0_E_a : Exa Z h0 a "com/example/object_access_rules/objectaccessrules/service/HttpRequest") (f0_F_a_method : Fld Z h0 a "com/example/object_access_rules/objectaccessrules/service/HttpRequest" "method" "Ljava/lang/String;" .null) (f0_F_a_path : Fld Z h0 a "com/example/object_access_rules/objectaccessrules/service/HttpRequest" "path" "Ljava/lang/String;" .null) (f0_F_a_host : Fld Z h0 a "com/example/object_access_rules/objectaccessrules/service/HttpRequest" "host" "Ljava/lang/String;" .null) (f0_F_a_contentLength : Fld Z h0 a "com/example/object_access_rules/objectaccessrules/service/HttpRequest" "contentLength" "J" (.long (0 : Int64))) (f0_F_a_chunked : Fld Z h0 a "com/example/object_access_rules/objectaccessrules/service/HttpRequest" "chunked" "Z" (.int (0 : Int32))) (f0_F_a_keepAlive : Fld Z h0 a "com/example/object_access_rules/objectaccessrules/service/HttpRequest" "keepAlive" "Z" (.int (0 : Int32))) (f0_F_a_expectsContinue : Fld Z h0 a "com/example/object_access_rules/objectaccessrules/service/HttpRequest" "expectsContinue" "Z" (.int (0 : Int32))) (g_a : n0 ≤ a) :
    MetFree l mt5 (head1 (Jvm.Cond.code mt5 prog_113_method_1_code 9 none :: ws) ({ frames := 2, cells := 0, slots := 0, locals := 24 } : Room)) (fun aq U => aq = #[(.ref a), (.ref w1), (.ref w2), .null, (.long q), (.int c1), (.int c2), (.int c3)] ∧ Z.Warmed39 U.vm ∧ U.heap = h0) (fun _ _ _ _ _ => True) (fun _ U o U' => ∃ v L, o = .returned v ∧ Q_own_hrN Z a w1 w2 q c1 c2 c3 h0 n0 v U'.heap L ∧ FrameEnd U o U' L ({ frames := 2, cells := 0, slots := 0, locals := 24 } : Room).cells ({ frames := 2, cells := 0, slots := 0, locals := 24 } : Room).slots) := by
  refine MetFree.of_bodySF (plainFor_of_name pn_com_example_object_access_rules_objectaccessrules_service_HttpRequest) hisR ?_
  intro p e s m args below meth c s₁ Bd hml0 hP hK
  obtain ⟨rfl, hZ, hh⟩ := hP
  have hx := Bd.exec
  have hby := Bd.bytes
  have hml : c.maxLocals = 9 := hml0
  have hown : s.vm.findClass "com/example/object_access_rules/objectaccessrules/service/HttpRequest" = some m.cls := findClass_of_methodNamed Bd.named
  have hnm := (name_of_methodNamed Bd.named Bd.method).1
  have X0 : Stand p l e ({ frames := 2, cells := 0, slots := 0, locals := 24 } : Room) s m #[(.ref a), (.ref w1), (.ref w2), .null, (.long q), (.int c1), (.int c2), (.int c3)] below meth c s₁ [] 0 0 := Stand.of_body Bd
  have e0 : s₁.heap = h0 := by rw [← hh, Bd.state]; rfl
  have N0 := Fr.nil n0
  have zO := O0.1
  have zO2 := O0.2.1
  have fl_E_a : h0.size > a := f0_E_a.lt
  have fl_F_a_method : h0.size > a := f0_F_a_method.lt
  have fl_F_a_path : h0.size > a := f0_F_a_path.lt
  have fl_F_a_host : h0.size > a := f0_F_a_host.lt
  have fl_F_a_contentLength : h0.size > a := f0_F_a_contentLength.lt
  have fl_F_a_chunked : h0.size > a := f0_F_a_chunked.lt
  have fl_F_a_keepAlive : h0.size > a := f0_F_a_keepAlive.lt
  have fl_F_a_expectsContinue : h0.size > a := f0_F_a_expectsContinue.lt
  refine own_open (own_via (S' := s₁.setTop (mkF m 0 #[.val (.ref a), .val (.ref w1), .val (.ref w2), .val .null, .val (.long q), .second, .val (.int c1), .val (.int c2), .val (.int c3)] [])) (fun t k => castTop (ef_own_hrN m a w1 w2 q c1 c2 c3) k) ?_)
  have K0 : Keep h0 h0 [a] := Keep.refl _ _
  refine own_via (S' := s₁.setTop (mkF m 1 #[.val (.ref a), .val (.ref w1), .val (.ref w2), .val .null, .val (.long q), .second, .val (.int c1), .val (.int c2), .val (.int c3)] [(.ref a)])) (fun t k => XS.aloadN X0.here hx rfl (hb hby d11_0) rfl rfl k) ?_
  obtain ⟨_, _, ⟨T1, Lp1, kp1, np1⟩, -, X1, ⟨Lc1, hQ1, l1, y1, z1⟩, st1⟩ := X0.specialBack hx (y := mt0) rfl hown (mvT hZ (wd51 hw)) (mvT hZ (wd52 hw)) (mvT hZ (wd55 hw)) (by decide) (backOf (W := 0) (own_rec l Z a0 hw [] a h0 n0 O0) hZ (wd55 hw) (wd54 hw) (by decide) (by decide)) (g := (mkF m 1 #[.val (.ref a), .val (.ref w1), .val (.ref w2), .val .null, .val (.long q), .second, .val (.int c1), .val (.int c2), .val (.int c3)] [(.ref a)])) rfl (by rw [hml]; rfl) (Steps.refl _) (a := a) (argsL := []) (rest := []) (lenOf pd___V_167 rfl) rfl (by show 2 * 0 + _ ≤ _; exact Nat.le_of_eq rfl) (hb hby d11_1) (fun _ _ => ⟨rfl, e0, (by decide : 0 + 0 ≤ _), (by decide : 0 + 0 ≤ _)⟩)
  dsimp only [Pt.U, Pt.locs, Pt.cells, Pt.slots] at X1 l1 y1 z1 st1 hQ1
  subst Lp1 kp1 np1
  obtain ⟨rfl, rfl, e1⟩ := hQ1
  try rw [List.append_nil] at X1
  refine own_tr (S' := T1.setTop (mkF m 4 #[.val (.ref a), .val (.ref w1), .val (.ref w2), .val .null, .val (.long q), .second, .val (.int c1), .val (.int c2), .val (.int c3)] [])) st1 ?_
  refine own_via (S' := T1.setTop (mkF m 5 #[.val (.ref a), .val (.ref w1), .val (.ref w2), .val .null, .val (.long q), .second, .val (.int c1), .val (.int c2), .val (.int c3)] [(.ref a)])) (fun t k => XS.aloadN X1.here hx rfl (hb hby d11_4) rfl rfl k) ?_
  refine own_via (S' := T1.setTop (mkF m 6 #[.val (.ref a), .val (.ref w1), .val (.ref w2), .val .null, .val (.long q), .second, .val (.int c1), .val (.int c2), .val (.int c3)] [(.ref w1), (.ref a)])) (fun t k => XS.aloadN X1.here hx rfl (hb hby d11_5) rfl rfl k) ?_
  obtain ⟨T2, h2, X2, e2, W2, st2⟩ := putF X1 hx hZ hown (host := "") (Or.inl (wd57 hw)) Via.refl e1 f0_F_a_method f0_E_a (Or.inr ⟨(wd58 hw), rfl, hnm⟩) (wd46 hw) (ty := (.object "java/lang/String")) (by decide) rfl rfl (g := (mkF m 6 #[.val (.ref a), .val (.ref w1), .val (.ref w2), .val .null, .val (.long q), .second, .val (.int c1), .val (.int c2), .val (.int c3)] [(.ref w1), (.ref a)])) rfl rfl (hb hby d11_6)
  have sz3 : h0.size ≤ h2.size := Nat.le_of_eq W2.size.symm
  have O4 : Old Z n0 h2 := O0.wr W2 (by omega : n0 ≤ a)
  have N2 := Fr.snoc X2 N0 (by omega : n0 ≤ a)
  have K5 : Keep h0 h2 [a] := K0.wr W2 (Or.inl (List.mem_of_getElem? (i := 0) rfl))
  have Fw2 : Fld Z h2 a "com/example/object_access_rules/objectaccessrules/service/HttpRequest" "method" "Ljava/lang/String;" (.ref w1) := Fld.same W2 f0_F_a_method
  refine own_via (S' := T2.setTop (mkF m 9 #[.val (.ref a), .val (.ref w1), .val (.ref w2), .val .null, .val (.long q), .second, .val (.int c1), .val (.int c2), .val (.int c3)] [])) st2 ?_
  refine own_via (S' := T2.setTop (mkF m 10 #[.val (.ref a), .val (.ref w1), .val (.ref w2), .val .null, .val (.long q), .second, .val (.int c1), .val (.int c2), .val (.int c3)] [(.ref a)])) (fun t k => XS.aloadN X2.here hx rfl (hb hby d11_9) rfl rfl k) ?_
  refine own_via (S' := T2.setTop (mkF m 11 #[.val (.ref a), .val (.ref w1), .val (.ref w2), .val .null, .val (.long q), .second, .val (.int c1), .val (.int c2), .val (.int c3)] [(.ref w2), (.ref a)])) (fun t k => XS.aloadN X2.here hx rfl (hb hby d11_10) rfl rfl k) ?_
  have cx6 : Exa Z h2 a "com/example/object_access_rules/objectaccessrules/service/HttpRequest" := (Exa.wr W2 f0_E_a)
  have cx7 : Fld Z h2 a "com/example/object_access_rules/objectaccessrules/service/HttpRequest" "path" "Ljava/lang/String;" .null := (Fld.other W2 f0_F_a_path (Or.inr (slot_ne (Or.inr (wd60 hw)) (Or.inr (wd58 hw)) (by decide) (t := (.object "java/lang/String")) (t' := (.object "java/lang/String")) (by decide) (by decide))))
  obtain ⟨T8, h8, X8, e8, W8, st8⟩ := putF X2 hx hZ hown (host := "") (Or.inl (wd59 hw)) Via.refl e2 cx7 cx6 (Or.inr ⟨(wd60 hw), rfl, hnm⟩) (wd46 hw) (ty := (.object "java/lang/String")) (by decide) rfl rfl (g := (mkF m 11 #[.val (.ref a), .val (.ref w1), .val (.ref w2), .val .null, .val (.long q), .second, .val (.int c1), .val (.int c2), .val (.int c3)] [(.ref w2), (.ref a)])) rfl rfl (hb hby d11_11)
  have sz9 : h2.size ≤ h8.size := Nat.le_of_eq W8.size.symm
  have O10 : Old Z n0 h8 := O4.wr W8 (by omega : n0 ≤ a)
  have N8 := Fr.snoc X8 N2 (by omega : n0 ≤ a)
  have K11 : Keep h0 h8 [a] := K5.wr W8 (Or.inl (List.mem_of_getElem? (i := 0) rfl))
  have Fw8 : Fld Z h8 a "com/example/object_access_rules/objectaccessrules/service/HttpRequest" "path" "Ljava/lang/String;" (.ref w2) := Fld.same W8 cx7
  refine own_via (S' := T8.setTop (mkF m 14 #[.val (.ref a), .val (.ref w1), .val (.ref w2), .val .null, .val (.long q), .second, .val (.int c1), .val (.int c2), .val (.int c3)] [])) st8 ?_
  refine own_via (S' := T8.setTop (mkF m 15 #[.val (.ref a), .val (.ref w1), .val (.ref w2), .val .null, .val (.long q), .second, .val (.int c1), .val (.int c2), .val (.int c3)] [(.ref a)])) (fun t k => XS.aloadN X8.here hx rfl (hb hby d11_14) rfl rfl k) ?_
  refine own_via (S' := T8.setTop (mkF m 16 #[.val (.ref a), .val (.ref w1), .val (.ref w2), .val .null, .val (.long q), .second, .val (.int c1), .val (.int c2), .val (.int c3)] [.null, (.ref a)])) (fun t k => XS.aloadN X8.here hx rfl (hb hby d11_15) rfl rfl k) ?_
  have cx12 : Exa Z h8 a "com/example/object_access_rules/objectaccessrules/service/HttpRequest" := (Exa.wr W8 cx6)
  have cx13 : Fld Z h8 a "com/example/object_access_rules/objectaccessrules/service/HttpRequest" "host" "Ljava/lang/String;" .null := (Fld.other W8 (Fld.other W2 f0_F_a_host (Or.inr (slot_ne (Or.inr (wd62 hw)) (Or.inr (wd58 hw)) (by decide) (t := (.object "java/lang/String")) (t' := (.object "java/lang/String")) (by decide) (by decide)))) (Or.inr (slot_ne (Or.inr (wd62 hw)) (Or.inr (wd60 hw)) (by decide) (t := (.object "java/lang/String")) (t' := (.object "java/lang/String")) (by decide) (by decide))))
  obtain ⟨T14, h14, X14, e14, W14, st14⟩ := putF X8 hx hZ hown (host := "") (Or.inl (wd61 hw)) Via.refl e8 cx13 cx12 (Or.inr ⟨(wd62 hw), rfl, hnm⟩) (wd46 hw) (ty := (.object "java/lang/String")) (by decide) rfl rfl (g := (mkF m 16 #[.val (.ref a), .val (.ref w1), .val (.ref w2), .val .null, .val (.long q), .second, .val (.int c1), .val (.int c2), .val (.int c3)] [.null, (.ref a)])) rfl rfl (hb hby d11_16)
  have sz15 : h8.size ≤ h14.size := Nat.le_of_eq W14.size.symm
  have O16 : Old Z n0 h14 := O10.wr W14 (by omega : n0 ≤ a)
  have N14 := Fr.snoc X14 N8 (by omega : n0 ≤ a)
  have K17 : Keep h0 h14 [a] := K11.wr W14 (Or.inl (List.mem_of_getElem? (i := 0) rfl))
  have Fw14 : Fld Z h14 a "com/example/object_access_rules/objectaccessrules/service/HttpRequest" "host" "Ljava/lang/String;" .null := Fld.same W14 cx13
  refine own_via (S' := T14.setTop (mkF m 19 #[.val (.ref a), .val (.ref w1), .val (.ref w2), .val .null, .val (.long q), .second, .val (.int c1), .val (.int c2), .val (.int c3)] [])) st14 ?_
  refine own_via (S' := T14.setTop (mkF m 20 #[.val (.ref a), .val (.ref w1), .val (.ref w2), .val .null, .val (.long q), .second, .val (.int c1), .val (.int c2), .val (.int c3)] [(.ref a)])) (fun t k => XS.aloadN X14.here hx rfl (hb hby d11_19) rfl rfl k) ?_
  refine own_via (S' := T14.setTop (mkF m 22 #[.val (.ref a), .val (.ref w1), .val (.ref w2), .val .null, .val (.long q), .second, .val (.int c1), .val (.int c2), .val (.int c3)] [(.long q), (.ref a)])) (fun t k => XS.lload X14.here hx rfl (hb hby d11_20) rfl k) ?_
  have cx18 : Exa Z h14 a "com/example/object_access_rules/objectaccessrules/service/HttpRequest" := (Exa.wr W14 cx12)
  have cx19 : Fld Z h14 a "com/example/object_access_rules/objectaccessrules/service/HttpRequest" "contentLength" "J" (.long (0 : Int64)) := (Fld.other W14 (Fld.other W8 (Fld.other W2 f0_F_a_contentLength (Or.inr (slot_ne (Or.inr (wd64 hw)) (Or.inr (wd58 hw)) (by decide) (t := .long) (t' := (.object "java/lang/String")) (by decide) (by decide)))) (Or.inr (slot_ne (Or.inr (wd64 hw)) (Or.inr (wd60 hw)) (by decide) (t := .long) (t' := (.object "java/lang/String")) (by decide) (by decide)))) (Or.inr (slot_ne (Or.inr (wd64 hw)) (Or.inr (wd62 hw)) (by decide) (t := .long) (t' := (.object "java/lang/String")) (by decide) (by decide))))
  obtain ⟨T20, h20, X20, e20, W20, st20⟩ := putF X14 hx hZ hown (host := "") (Or.inl (wd63 hw)) Via.refl e14 cx19 cx18 (Or.inr ⟨(wd64 hw), rfl, hnm⟩) (wd46 hw) (ty := .long) (by decide) rfl rfl (g := (mkF m 22 #[.val (.ref a), .val (.ref w1), .val (.ref w2), .val .null, .val (.long q), .second, .val (.int c1), .val (.int c2), .val (.int c3)] [(.long q), (.ref a)])) rfl rfl (hb hby d11_22)
  have sz21 : h14.size ≤ h20.size := Nat.le_of_eq W20.size.symm
  have O22 : Old Z n0 h20 := O16.wr W20 (by omega : n0 ≤ a)
  have N20 := Fr.snoc X20 N14 (by omega : n0 ≤ a)
  have K23 : Keep h0 h20 [a] := K17.wr W20 (Or.inl (List.mem_of_getElem? (i := 0) rfl))
  have Fw20 : Fld Z h20 a "com/example/object_access_rules/objectaccessrules/service/HttpRequest" "contentLength" "J" (.long q) := Fld.same W20 cx19
  refine own_via (S' := T20.setTop (mkF m 25 #[.val (.ref a), .val (.ref w1), .val (.ref w2), .val .null, .val (.long q), .second, .val (.int c1), .val (.int c2), .val (.int c3)] [])) st20 ?_
  refine own_via (S' := T20.setTop (mkF m 26 #[.val (.ref a), .val (.ref w1), .val (.ref w2), .val .null, .val (.long q), .second, .val (.int c1), .val (.int c2), .val (.int c3)] [(.ref a)])) (fun t k => XS.aloadN X20.here hx rfl (hb hby d11_25) rfl rfl k) ?_
  refine own_via (S' := T20.setTop (mkF m 28 #[.val (.ref a), .val (.ref w1), .val (.ref w2), .val .null, .val (.long q), .second, .val (.int c1), .val (.int c2), .val (.int c3)] [(.int c1), (.ref a)])) (fun t k => XS.iload X20.here hx rfl (hb hby d11_26) rfl k) ?_
  have cx24 : Exa Z h20 a "com/example/object_access_rules/objectaccessrules/service/HttpRequest" := (Exa.wr W20 cx18)
  have cx25 : Fld Z h20 a "com/example/object_access_rules/objectaccessrules/service/HttpRequest" "chunked" "Z" (.int (0 : Int32)) := (Fld.other W20 (Fld.other W14 (Fld.other W8 (Fld.other W2 f0_F_a_chunked (Or.inr (slot_ne (Or.inr (wd66 hw)) (Or.inr (wd58 hw)) (by decide) (t := .boolean) (t' := (.object "java/lang/String")) (by decide) (by decide)))) (Or.inr (slot_ne (Or.inr (wd66 hw)) (Or.inr (wd60 hw)) (by decide) (t := .boolean) (t' := (.object "java/lang/String")) (by decide) (by decide)))) (Or.inr (slot_ne (Or.inr (wd66 hw)) (Or.inr (wd62 hw)) (by decide) (t := .boolean) (t' := (.object "java/lang/String")) (by decide) (by decide)))) (Or.inr (slot_ne (Or.inr (wd66 hw)) (Or.inr (wd64 hw)) (by decide) (t := .boolean) (t' := .long) (by decide) (by decide))))
  obtain ⟨T26, h26, X26, e26, W26, st26⟩ := putFN X20 hx hZ hown (wd65 hw) Via.refl e20 cx25 cx24 (Or.inr ⟨(wd66 hw), rfl, hnm⟩) (wd46 hw) (ty := .boolean) (v' := (.int (nar .boolean c1))) (by decide) rfl (fits_nar_bool _) (g := (mkF m 28 #[.val (.ref a), .val (.ref w1), .val (.ref w2), .val .null, .val (.long q), .second, .val (.int c1), .val (.int c2), .val (.int c3)] [(.int c1), (.ref a)])) rfl rfl (hb hby d11_28)
  have sz27 : h20.size ≤ h26.size := Nat.le_of_eq W26.size.symm
  have O28 : Old Z n0 h26 := O22.wr W26 (by omega : n0 ≤ a)
  have N26 := Fr.snoc X26 N20 (by omega : n0 ≤ a)
  have K29 : Keep h0 h26 [a] := K23.wr W26 (Or.inl (List.mem_of_getElem? (i := 0) rfl))
  have Fw26 : Fld Z h26 a "com/example/object_access_rules/objectaccessrules/service/HttpRequest" "chunked" "Z" (.int (nar .boolean c1)) := Fld.same W26 cx25
  refine own_via (S' := T26.setTop (mkF m 31 #[.val (.ref a), .val (.ref w1), .val (.ref w2), .val .null, .val (.long q), .second, .val (.int c1), .val (.int c2), .val (.int c3)] [])) st26 ?_
  refine own_via (S' := T26.setTop (mkF m 32 #[.val (.ref a), .val (.ref w1), .val (.ref w2), .val .null, .val (.long q), .second, .val (.int c1), .val (.int c2), .val (.int c3)] [(.ref a)])) (fun t k => XS.aloadN X26.here hx rfl (hb hby d11_31) rfl rfl k) ?_
  refine own_via (S' := T26.setTop (mkF m 34 #[.val (.ref a), .val (.ref w1), .val (.ref w2), .val .null, .val (.long q), .second, .val (.int c1), .val (.int c2), .val (.int c3)] [(.int c2), (.ref a)])) (fun t k => XS.iload X26.here hx rfl (hb hby d11_32) rfl k) ?_
  have cx30 : Exa Z h26 a "com/example/object_access_rules/objectaccessrules/service/HttpRequest" := (Exa.wr W26 cx24)
  have cx31 : Fld Z h26 a "com/example/object_access_rules/objectaccessrules/service/HttpRequest" "keepAlive" "Z" (.int (0 : Int32)) := (Fld.other W26 (Fld.other W20 (Fld.other W14 (Fld.other W8 (Fld.other W2 f0_F_a_keepAlive (Or.inr (slot_ne (Or.inr (wd68 hw)) (Or.inr (wd58 hw)) (by decide) (t := .boolean) (t' := (.object "java/lang/String")) (by decide) (by decide)))) (Or.inr (slot_ne (Or.inr (wd68 hw)) (Or.inr (wd60 hw)) (by decide) (t := .boolean) (t' := (.object "java/lang/String")) (by decide) (by decide)))) (Or.inr (slot_ne (Or.inr (wd68 hw)) (Or.inr (wd62 hw)) (by decide) (t := .boolean) (t' := (.object "java/lang/String")) (by decide) (by decide)))) (Or.inr (slot_ne (Or.inr (wd68 hw)) (Or.inr (wd64 hw)) (by decide) (t := .boolean) (t' := .long) (by decide) (by decide)))) (Or.inr (slot_ne (Or.inr (wd68 hw)) (Or.inr (wd66 hw)) (by decide) (t := .boolean) (t' := .boolean) (by decide) (by decide))))
  obtain ⟨T32, h32, X32, e32, W32, st32⟩ := putFN X26 hx hZ hown (wd67 hw) Via.refl e26 cx31 cx30 (Or.inr ⟨(wd68 hw), rfl, hnm⟩) (wd46 hw) (ty := .boolean) (v' := (.int (nar .boolean c2))) (by decide) rfl (fits_nar_bool _) (g := (mkF m 34 #[.val (.ref a), .val (.ref w1), .val (.ref w2), .val .null, .val (.long q), .second, .val (.int c1), .val (.int c2), .val (.int c3)] [(.int c2), (.ref a)])) rfl rfl (hb hby d11_34)
  have sz33 : h26.size ≤ h32.size := Nat.le_of_eq W32.size.symm
  have O34 : Old Z n0 h32 := O28.wr W32 (by omega : n0 ≤ a)
  have N32 := Fr.snoc X32 N26 (by omega : n0 ≤ a)
  have K35 : Keep h0 h32 [a] := K29.wr W32 (Or.inl (List.mem_of_getElem? (i := 0) rfl))
  have Fw32 : Fld Z h32 a "com/example/object_access_rules/objectaccessrules/service/HttpRequest" "keepAlive" "Z" (.int (nar .boolean c2)) := Fld.same W32 cx31
  refine own_via (S' := T32.setTop (mkF m 37 #[.val (.ref a), .val (.ref w1), .val (.ref w2), .val .null, .val (.long q), .second, .val (.int c1), .val (.int c2), .val (.int c3)] [])) st32 ?_
  refine own_via (S' := T32.setTop (mkF m 38 #[.val (.ref a), .val (.ref w1), .val (.ref w2), .val .null, .val (.long q), .second, .val (.int c1), .val (.int c2), .val (.int c3)] [(.ref a)])) (fun t k => XS.aloadN X32.here hx rfl (hb hby d11_37) rfl rfl k) ?_
  refine own_via (S' := T32.setTop (mkF m 40 #[.val (.ref a), .val (.ref w1), .val (.ref w2), .val .null, .val (.long q), .second, .val (.int c1), .val (.int c2), .val (.int c3)] [(.int c3), (.ref a)])) (fun t k => XS.iload X32.here hx rfl (hb hby d11_38) rfl k) ?_
  have cx36 : Exa Z h32 a "com/example/object_access_rules/objectaccessrules/service/HttpRequest" := (Exa.wr W32 cx30)
  have cx37 : Fld Z h32 a "com/example/object_access_rules/objectaccessrules/service/HttpRequest" "expectsContinue" "Z" (.int (0 : Int32)) := (Fld.other W32 (Fld.other W26 (Fld.other W20 (Fld.other W14 (Fld.other W8 (Fld.other W2 f0_F_a_expectsContinue (Or.inr (slot_ne (Or.inr (wd70 hw)) (Or.inr (wd58 hw)) (by decide) (t := .boolean) (t' := (.object "java/lang/String")) (by decide) (by decide)))) (Or.inr (slot_ne (Or.inr (wd70 hw)) (Or.inr (wd60 hw)) (by decide) (t := .boolean) (t' := (.object "java/lang/String")) (by decide) (by decide)))) (Or.inr (slot_ne (Or.inr (wd70 hw)) (Or.inr (wd62 hw)) (by decide) (t := .boolean) (t' := (.object "java/lang/String")) (by decide) (by decide)))) (Or.inr (slot_ne (Or.inr (wd70 hw)) (Or.inr (wd64 hw)) (by decide) (t := .boolean) (t' := .long) (by decide) (by decide)))) (Or.inr (slot_ne (Or.inr (wd70 hw)) (Or.inr (wd66 hw)) (by decide) (t := .boolean) (t' := .boolean) (by decide) (by decide)))) (Or.inr (slot_ne (Or.inr (wd70 hw)) (Or.inr (wd68 hw)) (by decide) (t := .boolean) (t' := .boolean) (by decide) (by decide))))
  obtain ⟨T38, h38, X38, e38, W38, st38⟩ := putFN X32 hx hZ hown (wd69 hw) Via.refl e32 cx37 cx36 (Or.inr ⟨(wd70 hw), rfl, hnm⟩) (wd46 hw) (ty := .boolean) (v' := (.int (nar .boolean c3))) (by decide) rfl (fits_nar_bool _) (g := (mkF m 40 #[.val (.ref a), .val (.ref w1), .val (.ref w2), .val .null, .val (.long q), .second, .val (.int c1), .val (.int c2), .val (.int c3)] [(.int c3), (.ref a)])) rfl rfl (hb hby d11_40)
  have sz39 : h32.size ≤ h38.size := Nat.le_of_eq W38.size.symm
  have O40 : Old Z n0 h38 := O34.wr W38 (by omega : n0 ≤ a)
  have N38 := Fr.snoc X38 N32 (by omega : n0 ≤ a)
  have K41 : Keep h0 h38 [a] := K35.wr W38 (Or.inl (List.mem_of_getElem? (i := 0) rfl))
  have Fw38 : Fld Z h38 a "com/example/object_access_rules/objectaccessrules/service/HttpRequest" "expectsContinue" "Z" (.int (nar .boolean c3)) := Fld.same W38 cx37
  refine own_via (S' := T38.setTop (mkF m 43 #[.val (.ref a), .val (.ref w1), .val (.ref w2), .val .null, .val (.long q), .second, .val (.int c1), .val (.int c2), .val (.int c3)] [])) st38 ?_
  have cx42 : Fld Z h38 a "com/example/object_access_rules/objectaccessrules/service/HttpRequest" "contentLength" "J" (.long q) := (Fld.other W38 (Fld.other W32 (Fld.other W26 Fw20 (Or.inr (slot_ne (Or.inr (wd64 hw)) (Or.inr (wd66 hw)) (by decide) (t := .long) (t' := .boolean) (by decide) (by decide)))) (Or.inr (slot_ne (Or.inr (wd64 hw)) (Or.inr (wd68 hw)) (by decide) (t := .long) (t' := .boolean) (by decide) (by decide)))) (Or.inr (slot_ne (Or.inr (wd64 hw)) (Or.inr (wd70 hw)) (by decide) (t := .long) (t' := .boolean) (by decide) (by decide))))
  have cx43 : Fld Z h38 a "com/example/object_access_rules/objectaccessrules/service/HttpRequest" "chunked" "Z" (.int (nar .boolean c1)) := (Fld.other W38 (Fld.other W32 Fw26 (Or.inr (slot_ne (Or.inr (wd66 hw)) (Or.inr (wd68 hw)) (by decide) (t := .boolean) (t' := .boolean) (by decide) (by decide)))) (Or.inr (slot_ne (Or.inr (wd66 hw)) (Or.inr (wd70 hw)) (by decide) (t := .boolean) (t' := .boolean) (by decide) (by decide))))
  refine own_ret (Q := Q_own_hrN Z a w1 w2 q c1 c2 c3 h0 n0) (C := ({ frames := 2, cells := 0, slots := 0, locals := 24 } : Room).cells) (N := ({ frames := 2, cells := 0, slots := 0, locals := 24 } : Room).slots) X38 (v := none) (fun _ => rfl) Bd.notSynchronized ?_ (by decide) (by decide) (fun fs hr => X38.returnOut hx Bd.returns (hb hby d11_43) hr)
  show Q_own_hrN Z a w1 w2 q c1 c2 c3 h0 n0 _ T38.heap _
  rw [e38]
  exact ⟨rfl, N38, K41, cx42, cx43⟩
def Q_own_hrR (Z : State) (a : Addr) (w1 : Addr) (w2 : Addr) (w3 : Addr) (q : Int64) (c1 : Int32) (c2 : Int32) (c3 : Int32) (h0 : Heap) (n0 : Nat) (v : Option Value) (h : Heap) (L : List Loc) : Prop := v = none ∧ Fr n0 L ∧ Keep h0 h [a] ∧ Fld Z h a "com/example/object_access_rules/objectaccessrules/service/HttpRequest" "contentLength" "J" (.long q) ∧ Fld Z h a "com/example/object_access_rules/objectaccessrules/service/HttpRequest" "chunked" "Z" (.int (nar .boolean c1))
set_option maxRecDepth 65536 in
set_option maxHeartbeats 40000000 in
theorem own_hrR (l : Launch) (Z : State) (a0 : Array Value) (hw : ∀ d ∈ tables_1, d.before a0 Z = true) (ws : List Jvm.Cond) (a : Addr) (w1 : Addr) (w2 : Addr) (w3 : Addr) (q : Int64) (c1 : Int32) (c2 : Int32) (c3 : Int32) (h0 : Heap) (n0 : Nat) (O0 : Old Z n0 h0) (f0_E_a : Exa Z h0 a "com/example/object_access_rules/objectaccessrules/service/HttpRequest") (f0_F_a_method : Fld Z h0 a "com/example/object_access_rules/objectaccessrules/service/HttpRequest" "method" "Ljava/lang/String;" .null) (f0_F_a_path : Fld Z h0 a "com/example/object_access_rules/objectaccessrules/service/HttpRequest" "path" "Ljava/lang/String;" .null) (f0_F_a_host : Fld Z h0 a "com/example/object_access_rules/objectaccessrules/service/HttpRequest" "host" "Ljava/lang/String;" .null) (f0_F_a_contentLength : Fld Z h0 a "com/example/object_access_rules/objectaccessrules/service/HttpRequest" "contentLength" "J" (.long (0 : Int64))) (f0_F_a_chunked : Fld Z h0 a "com/example/object_access_rules/objectaccessrules/service/HttpRequest" "chunked" "Z" (.int (0 : Int32))) (f0_F_a_keepAlive : Fld Z h0 a "com/example/object_access_rules/objectaccessrules/service/HttpRequest" "keepAlive" "Z" (.int (0 : Int32))) (f0_F_a_expectsContinue : Fld Z h0 a "com/example/object_access_rules/objectaccessrules/service/HttpRequest" "expectsContinue" "Z" (.int (0 : Int32))) (g_a : n0 ≤ a) :
    MetFree l mt5 (head1 (Jvm.Cond.code mt5 prog_113_method_1_code 9 none :: ws) ({ frames := 2, cells := 0, slots := 0, locals := 24 } : Room)) (fun aq U => aq = #[(.ref a), (.ref w1), (.ref w2), (.ref w3), (.long q), (.int c1), (.int c2), (.int c3)] ∧ Z.Warmed39 U.vm ∧ U.heap = h0) (fun _ _ _ _ _ => True) (fun _ U o U' => ∃ v L, o = .returned v ∧ Q_own_hrR Z a w1 w2 w3 q c1 c2 c3 h0 n0 v U'.heap L ∧ FrameEnd U o U' L ({ frames := 2, cells := 0, slots := 0, locals := 24 } : Room).cells ({ frames := 2, cells := 0, slots := 0, locals := 24 } : Room).slots) := by
  refine MetFree.of_bodySF (plainFor_of_name pn_com_example_object_access_rules_objectaccessrules_service_HttpRequest) hisR ?_
  intro p e s m args below meth c s₁ Bd hml0 hP hK
  obtain ⟨rfl, hZ, hh⟩ := hP
  have hx := Bd.exec
  have hby := Bd.bytes
  have hml : c.maxLocals = 9 := hml0
  have hown : s.vm.findClass "com/example/object_access_rules/objectaccessrules/service/HttpRequest" = some m.cls := findClass_of_methodNamed Bd.named
  have hnm := (name_of_methodNamed Bd.named Bd.method).1
  have X0 : Stand p l e ({ frames := 2, cells := 0, slots := 0, locals := 24 } : Room) s m #[(.ref a), (.ref w1), (.ref w2), (.ref w3), (.long q), (.int c1), (.int c2), (.int c3)] below meth c s₁ [] 0 0 := Stand.of_body Bd
  have e0 : s₁.heap = h0 := by rw [← hh, Bd.state]; rfl
  have N0 := Fr.nil n0
  have zO := O0.1
  have zO2 := O0.2.1
  have fl_E_a : h0.size > a := f0_E_a.lt
  have fl_F_a_method : h0.size > a := f0_F_a_method.lt
  have fl_F_a_path : h0.size > a := f0_F_a_path.lt
  have fl_F_a_host : h0.size > a := f0_F_a_host.lt
  have fl_F_a_contentLength : h0.size > a := f0_F_a_contentLength.lt
  have fl_F_a_chunked : h0.size > a := f0_F_a_chunked.lt
  have fl_F_a_keepAlive : h0.size > a := f0_F_a_keepAlive.lt
  have fl_F_a_expectsContinue : h0.size > a := f0_F_a_expectsContinue.lt
  refine own_open (own_via (S' := s₁.setTop (mkF m 0 #[.val (.ref a), .val (.ref w1), .val (.ref w2), .val (.ref w3), .val (.long q), .second, .val (.int c1), .val (.int c2), .val (.int c3)] [])) (fun t k => castTop (ef_own_hrR m a w1 w2 w3 q c1 c2 c3) k) ?_)
  have K0 : Keep h0 h0 [a] := Keep.refl _ _
  refine own_via (S' := s₁.setTop (mkF m 1 #[.val (.ref a), .val (.ref w1), .val (.ref w2), .val (.ref w3), .val (.long q), .second, .val (.int c1), .val (.int c2), .val (.int c3)] [(.ref a)])) (fun t k => XS.aloadN X0.here hx rfl (hb hby d11_0) rfl rfl k) ?_
  obtain ⟨_, _, ⟨T1, Lp1, kp1, np1⟩, -, X1, ⟨Lc1, hQ1, l1, y1, z1⟩, st1⟩ := X0.specialBack hx (y := mt0) rfl hown (mvT hZ (wd51 hw)) (mvT hZ (wd52 hw)) (mvT hZ (wd55 hw)) (by decide) (backOf (W := 0) (own_rec l Z a0 hw [] a h0 n0 O0) hZ (wd55 hw) (wd54 hw) (by decide) (by decide)) (g := (mkF m 1 #[.val (.ref a), .val (.ref w1), .val (.ref w2), .val (.ref w3), .val (.long q), .second, .val (.int c1), .val (.int c2), .val (.int c3)] [(.ref a)])) rfl (by rw [hml]; rfl) (Steps.refl _) (a := a) (argsL := []) (rest := []) (lenOf pd___V_167 rfl) rfl (by show 2 * 0 + _ ≤ _; exact Nat.le_of_eq rfl) (hb hby d11_1) (fun _ _ => ⟨rfl, e0, (by decide : 0 + 0 ≤ _), (by decide : 0 + 0 ≤ _)⟩)
  dsimp only [Pt.U, Pt.locs, Pt.cells, Pt.slots] at X1 l1 y1 z1 st1 hQ1
  subst Lp1 kp1 np1
  obtain ⟨rfl, rfl, e1⟩ := hQ1
  try rw [List.append_nil] at X1
  refine own_tr (S' := T1.setTop (mkF m 4 #[.val (.ref a), .val (.ref w1), .val (.ref w2), .val (.ref w3), .val (.long q), .second, .val (.int c1), .val (.int c2), .val (.int c3)] [])) st1 ?_
  refine own_via (S' := T1.setTop (mkF m 5 #[.val (.ref a), .val (.ref w1), .val (.ref w2), .val (.ref w3), .val (.long q), .second, .val (.int c1), .val (.int c2), .val (.int c3)] [(.ref a)])) (fun t k => XS.aloadN X1.here hx rfl (hb hby d11_4) rfl rfl k) ?_
  refine own_via (S' := T1.setTop (mkF m 6 #[.val (.ref a), .val (.ref w1), .val (.ref w2), .val (.ref w3), .val (.long q), .second, .val (.int c1), .val (.int c2), .val (.int c3)] [(.ref w1), (.ref a)])) (fun t k => XS.aloadN X1.here hx rfl (hb hby d11_5) rfl rfl k) ?_
  obtain ⟨T2, h2, X2, e2, W2, st2⟩ := putF X1 hx hZ hown (host := "") (Or.inl (wd57 hw)) Via.refl e1 f0_F_a_method f0_E_a (Or.inr ⟨(wd58 hw), rfl, hnm⟩) (wd46 hw) (ty := (.object "java/lang/String")) (by decide) rfl rfl (g := (mkF m 6 #[.val (.ref a), .val (.ref w1), .val (.ref w2), .val (.ref w3), .val (.long q), .second, .val (.int c1), .val (.int c2), .val (.int c3)] [(.ref w1), (.ref a)])) rfl rfl (hb hby d11_6)
  have sz3 : h0.size ≤ h2.size := Nat.le_of_eq W2.size.symm
  have O4 : Old Z n0 h2 := O0.wr W2 (by omega : n0 ≤ a)
  have N2 := Fr.snoc X2 N0 (by omega : n0 ≤ a)
  have K5 : Keep h0 h2 [a] := K0.wr W2 (Or.inl (List.mem_of_getElem? (i := 0) rfl))
  have Fw2 : Fld Z h2 a "com/example/object_access_rules/objectaccessrules/service/HttpRequest" "method" "Ljava/lang/String;" (.ref w1) := Fld.same W2 f0_F_a_method
  refine own_via (S' := T2.setTop (mkF m 9 #[.val (.ref a), .val (.ref w1), .val (.ref w2), .val (.ref w3), .val (.long q), .second, .val (.int c1), .val (.int c2), .val (.int c3)] [])) st2 ?_
  refine own_via (S' := T2.setTop (mkF m 10 #[.val (.ref a), .val (.ref w1), .val (.ref w2), .val (.ref w3), .val (.long q), .second, .val (.int c1), .val (.int c2), .val (.int c3)] [(.ref a)])) (fun t k => XS.aloadN X2.here hx rfl (hb hby d11_9) rfl rfl k) ?_
  refine own_via (S' := T2.setTop (mkF m 11 #[.val (.ref a), .val (.ref w1), .val (.ref w2), .val (.ref w3), .val (.long q), .second, .val (.int c1), .val (.int c2), .val (.int c3)] [(.ref w2), (.ref a)])) (fun t k => XS.aloadN X2.here hx rfl (hb hby d11_10) rfl rfl k) ?_
  have cx6 : Exa Z h2 a "com/example/object_access_rules/objectaccessrules/service/HttpRequest" := (Exa.wr W2 f0_E_a)
  have cx7 : Fld Z h2 a "com/example/object_access_rules/objectaccessrules/service/HttpRequest" "path" "Ljava/lang/String;" .null := (Fld.other W2 f0_F_a_path (Or.inr (slot_ne (Or.inr (wd60 hw)) (Or.inr (wd58 hw)) (by decide) (t := (.object "java/lang/String")) (t' := (.object "java/lang/String")) (by decide) (by decide))))
  obtain ⟨T8, h8, X8, e8, W8, st8⟩ := putF X2 hx hZ hown (host := "") (Or.inl (wd59 hw)) Via.refl e2 cx7 cx6 (Or.inr ⟨(wd60 hw), rfl, hnm⟩) (wd46 hw) (ty := (.object "java/lang/String")) (by decide) rfl rfl (g := (mkF m 11 #[.val (.ref a), .val (.ref w1), .val (.ref w2), .val (.ref w3), .val (.long q), .second, .val (.int c1), .val (.int c2), .val (.int c3)] [(.ref w2), (.ref a)])) rfl rfl (hb hby d11_11)
  have sz9 : h2.size ≤ h8.size := Nat.le_of_eq W8.size.symm
  have O10 : Old Z n0 h8 := O4.wr W8 (by omega : n0 ≤ a)
  have N8 := Fr.snoc X8 N2 (by omega : n0 ≤ a)
  have K11 : Keep h0 h8 [a] := K5.wr W8 (Or.inl (List.mem_of_getElem? (i := 0) rfl))
  have Fw8 : Fld Z h8 a "com/example/object_access_rules/objectaccessrules/service/HttpRequest" "path" "Ljava/lang/String;" (.ref w2) := Fld.same W8 cx7
  refine own_via (S' := T8.setTop (mkF m 14 #[.val (.ref a), .val (.ref w1), .val (.ref w2), .val (.ref w3), .val (.long q), .second, .val (.int c1), .val (.int c2), .val (.int c3)] [])) st8 ?_
  refine own_via (S' := T8.setTop (mkF m 15 #[.val (.ref a), .val (.ref w1), .val (.ref w2), .val (.ref w3), .val (.long q), .second, .val (.int c1), .val (.int c2), .val (.int c3)] [(.ref a)])) (fun t k => XS.aloadN X8.here hx rfl (hb hby d11_14) rfl rfl k) ?_
  refine own_via (S' := T8.setTop (mkF m 16 #[.val (.ref a), .val (.ref w1), .val (.ref w2), .val (.ref w3), .val (.long q), .second, .val (.int c1), .val (.int c2), .val (.int c3)] [(.ref w3), (.ref a)])) (fun t k => XS.aloadN X8.here hx rfl (hb hby d11_15) rfl rfl k) ?_
  have cx12 : Exa Z h8 a "com/example/object_access_rules/objectaccessrules/service/HttpRequest" := (Exa.wr W8 cx6)
  have cx13 : Fld Z h8 a "com/example/object_access_rules/objectaccessrules/service/HttpRequest" "host" "Ljava/lang/String;" .null := (Fld.other W8 (Fld.other W2 f0_F_a_host (Or.inr (slot_ne (Or.inr (wd62 hw)) (Or.inr (wd58 hw)) (by decide) (t := (.object "java/lang/String")) (t' := (.object "java/lang/String")) (by decide) (by decide)))) (Or.inr (slot_ne (Or.inr (wd62 hw)) (Or.inr (wd60 hw)) (by decide) (t := (.object "java/lang/String")) (t' := (.object "java/lang/String")) (by decide) (by decide))))
  obtain ⟨T14, h14, X14, e14, W14, st14⟩ := putF X8 hx hZ hown (host := "") (Or.inl (wd61 hw)) Via.refl e8 cx13 cx12 (Or.inr ⟨(wd62 hw), rfl, hnm⟩) (wd46 hw) (ty := (.object "java/lang/String")) (by decide) rfl rfl (g := (mkF m 16 #[.val (.ref a), .val (.ref w1), .val (.ref w2), .val (.ref w3), .val (.long q), .second, .val (.int c1), .val (.int c2), .val (.int c3)] [(.ref w3), (.ref a)])) rfl rfl (hb hby d11_16)
  have sz15 : h8.size ≤ h14.size := Nat.le_of_eq W14.size.symm
  have O16 : Old Z n0 h14 := O10.wr W14 (by omega : n0 ≤ a)
  have N14 := Fr.snoc X14 N8 (by omega : n0 ≤ a)
  have K17 : Keep h0 h14 [a] := K11.wr W14 (Or.inl (List.mem_of_getElem? (i := 0) rfl))
  have Fw14 : Fld Z h14 a "com/example/object_access_rules/objectaccessrules/service/HttpRequest" "host" "Ljava/lang/String;" (.ref w3) := Fld.same W14 cx13
  refine own_via (S' := T14.setTop (mkF m 19 #[.val (.ref a), .val (.ref w1), .val (.ref w2), .val (.ref w3), .val (.long q), .second, .val (.int c1), .val (.int c2), .val (.int c3)] [])) st14 ?_
  refine own_via (S' := T14.setTop (mkF m 20 #[.val (.ref a), .val (.ref w1), .val (.ref w2), .val (.ref w3), .val (.long q), .second, .val (.int c1), .val (.int c2), .val (.int c3)] [(.ref a)])) (fun t k => XS.aloadN X14.here hx rfl (hb hby d11_19) rfl rfl k) ?_
  refine own_via (S' := T14.setTop (mkF m 22 #[.val (.ref a), .val (.ref w1), .val (.ref w2), .val (.ref w3), .val (.long q), .second, .val (.int c1), .val (.int c2), .val (.int c3)] [(.long q), (.ref a)])) (fun t k => XS.lload X14.here hx rfl (hb hby d11_20) rfl k) ?_
  have cx18 : Exa Z h14 a "com/example/object_access_rules/objectaccessrules/service/HttpRequest" := (Exa.wr W14 cx12)
  have cx19 : Fld Z h14 a "com/example/object_access_rules/objectaccessrules/service/HttpRequest" "contentLength" "J" (.long (0 : Int64)) := (Fld.other W14 (Fld.other W8 (Fld.other W2 f0_F_a_contentLength (Or.inr (slot_ne (Or.inr (wd64 hw)) (Or.inr (wd58 hw)) (by decide) (t := .long) (t' := (.object "java/lang/String")) (by decide) (by decide)))) (Or.inr (slot_ne (Or.inr (wd64 hw)) (Or.inr (wd60 hw)) (by decide) (t := .long) (t' := (.object "java/lang/String")) (by decide) (by decide)))) (Or.inr (slot_ne (Or.inr (wd64 hw)) (Or.inr (wd62 hw)) (by decide) (t := .long) (t' := (.object "java/lang/String")) (by decide) (by decide))))
  obtain ⟨T20, h20, X20, e20, W20, st20⟩ := putF X14 hx hZ hown (host := "") (Or.inl (wd63 hw)) Via.refl e14 cx19 cx18 (Or.inr ⟨(wd64 hw), rfl, hnm⟩) (wd46 hw) (ty := .long) (by decide) rfl rfl (g := (mkF m 22 #[.val (.ref a), .val (.ref w1), .val (.ref w2), .val (.ref w3), .val (.long q), .second, .val (.int c1), .val (.int c2), .val (.int c3)] [(.long q), (.ref a)])) rfl rfl (hb hby d11_22)
  have sz21 : h14.size ≤ h20.size := Nat.le_of_eq W20.size.symm
  have O22 : Old Z n0 h20 := O16.wr W20 (by omega : n0 ≤ a)
  have N20 := Fr.snoc X20 N14 (by omega : n0 ≤ a)
  have K23 : Keep h0 h20 [a] := K17.wr W20 (Or.inl (List.mem_of_getElem? (i := 0) rfl))
  have Fw20 : Fld Z h20 a "com/example/object_access_rules/objectaccessrules/service/HttpRequest" "contentLength" "J" (.long q) := Fld.same W20 cx19
  refine own_via (S' := T20.setTop (mkF m 25 #[.val (.ref a), .val (.ref w1), .val (.ref w2), .val (.ref w3), .val (.long q), .second, .val (.int c1), .val (.int c2), .val (.int c3)] [])) st20 ?_
  refine own_via (S' := T20.setTop (mkF m 26 #[.val (.ref a), .val (.ref w1), .val (.ref w2), .val (.ref w3), .val (.long q), .second, .val (.int c1), .val (.int c2), .val (.int c3)] [(.ref a)])) (fun t k => XS.aloadN X20.here hx rfl (hb hby d11_25) rfl rfl k) ?_
  refine own_via (S' := T20.setTop (mkF m 28 #[.val (.ref a), .val (.ref w1), .val (.ref w2), .val (.ref w3), .val (.long q), .second, .val (.int c1), .val (.int c2), .val (.int c3)] [(.int c1), (.ref a)])) (fun t k => XS.iload X20.here hx rfl (hb hby d11_26) rfl k) ?_
  have cx24 : Exa Z h20 a "com/example/object_access_rules/objectaccessrules/service/HttpRequest" := (Exa.wr W20 cx18)
  have cx25 : Fld Z h20 a "com/example/object_access_rules/objectaccessrules/service/HttpRequest" "chunked" "Z" (.int (0 : Int32)) := (Fld.other W20 (Fld.other W14 (Fld.other W8 (Fld.other W2 f0_F_a_chunked (Or.inr (slot_ne (Or.inr (wd66 hw)) (Or.inr (wd58 hw)) (by decide) (t := .boolean) (t' := (.object "java/lang/String")) (by decide) (by decide)))) (Or.inr (slot_ne (Or.inr (wd66 hw)) (Or.inr (wd60 hw)) (by decide) (t := .boolean) (t' := (.object "java/lang/String")) (by decide) (by decide)))) (Or.inr (slot_ne (Or.inr (wd66 hw)) (Or.inr (wd62 hw)) (by decide) (t := .boolean) (t' := (.object "java/lang/String")) (by decide) (by decide)))) (Or.inr (slot_ne (Or.inr (wd66 hw)) (Or.inr (wd64 hw)) (by decide) (t := .boolean) (t' := .long) (by decide) (by decide))))
  obtain ⟨T26, h26, X26, e26, W26, st26⟩ := putFN X20 hx hZ hown (wd65 hw) Via.refl e20 cx25 cx24 (Or.inr ⟨(wd66 hw), rfl, hnm⟩) (wd46 hw) (ty := .boolean) (v' := (.int (nar .boolean c1))) (by decide) rfl (fits_nar_bool _) (g := (mkF m 28 #[.val (.ref a), .val (.ref w1), .val (.ref w2), .val (.ref w3), .val (.long q), .second, .val (.int c1), .val (.int c2), .val (.int c3)] [(.int c1), (.ref a)])) rfl rfl (hb hby d11_28)
  have sz27 : h20.size ≤ h26.size := Nat.le_of_eq W26.size.symm
  have O28 : Old Z n0 h26 := O22.wr W26 (by omega : n0 ≤ a)
  have N26 := Fr.snoc X26 N20 (by omega : n0 ≤ a)
  have K29 : Keep h0 h26 [a] := K23.wr W26 (Or.inl (List.mem_of_getElem? (i := 0) rfl))
  have Fw26 : Fld Z h26 a "com/example/object_access_rules/objectaccessrules/service/HttpRequest" "chunked" "Z" (.int (nar .boolean c1)) := Fld.same W26 cx25
  refine own_via (S' := T26.setTop (mkF m 31 #[.val (.ref a), .val (.ref w1), .val (.ref w2), .val (.ref w3), .val (.long q), .second, .val (.int c1), .val (.int c2), .val (.int c3)] [])) st26 ?_
  refine own_via (S' := T26.setTop (mkF m 32 #[.val (.ref a), .val (.ref w1), .val (.ref w2), .val (.ref w3), .val (.long q), .second, .val (.int c1), .val (.int c2), .val (.int c3)] [(.ref a)])) (fun t k => XS.aloadN X26.here hx rfl (hb hby d11_31) rfl rfl k) ?_
  refine own_via (S' := T26.setTop (mkF m 34 #[.val (.ref a), .val (.ref w1), .val (.ref w2), .val (.ref w3), .val (.long q), .second, .val (.int c1), .val (.int c2), .val (.int c3)] [(.int c2), (.ref a)])) (fun t k => XS.iload X26.here hx rfl (hb hby d11_32) rfl k) ?_
  have cx30 : Exa Z h26 a "com/example/object_access_rules/objectaccessrules/service/HttpRequest" := (Exa.wr W26 cx24)
  have cx31 : Fld Z h26 a "com/example/object_access_rules/objectaccessrules/service/HttpRequest" "keepAlive" "Z" (.int (0 : Int32)) := (Fld.other W26 (Fld.other W20 (Fld.other W14 (Fld.other W8 (Fld.other W2 f0_F_a_keepAlive (Or.inr (slot_ne (Or.inr (wd68 hw)) (Or.inr (wd58 hw)) (by decide) (t := .boolean) (t' := (.object "java/lang/String")) (by decide) (by decide)))) (Or.inr (slot_ne (Or.inr (wd68 hw)) (Or.inr (wd60 hw)) (by decide) (t := .boolean) (t' := (.object "java/lang/String")) (by decide) (by decide)))) (Or.inr (slot_ne (Or.inr (wd68 hw)) (Or.inr (wd62 hw)) (by decide) (t := .boolean) (t' := (.object "java/lang/String")) (by decide) (by decide)))) (Or.inr (slot_ne (Or.inr (wd68 hw)) (Or.inr (wd64 hw)) (by decide) (t := .boolean) (t' := .long) (by decide) (by decide)))) (Or.inr (slot_ne (Or.inr (wd68 hw)) (Or.inr (wd66 hw)) (by decide) (t := .boolean) (t' := .boolean) (by decide) (by decide))))
  obtain ⟨T32, h32, X32, e32, W32, st32⟩ := putFN X26 hx hZ hown (wd67 hw) Via.refl e26 cx31 cx30 (Or.inr ⟨(wd68 hw), rfl, hnm⟩) (wd46 hw) (ty := .boolean) (v' := (.int (nar .boolean c2))) (by decide) rfl (fits_nar_bool _) (g := (mkF m 34 #[.val (.ref a), .val (.ref w1), .val (.ref w2), .val (.ref w3), .val (.long q), .second, .val (.int c1), .val (.int c2), .val (.int c3)] [(.int c2), (.ref a)])) rfl rfl (hb hby d11_34)
  have sz33 : h26.size ≤ h32.size := Nat.le_of_eq W32.size.symm
  have O34 : Old Z n0 h32 := O28.wr W32 (by omega : n0 ≤ a)
  have N32 := Fr.snoc X32 N26 (by omega : n0 ≤ a)
  have K35 : Keep h0 h32 [a] := K29.wr W32 (Or.inl (List.mem_of_getElem? (i := 0) rfl))
  have Fw32 : Fld Z h32 a "com/example/object_access_rules/objectaccessrules/service/HttpRequest" "keepAlive" "Z" (.int (nar .boolean c2)) := Fld.same W32 cx31
  refine own_via (S' := T32.setTop (mkF m 37 #[.val (.ref a), .val (.ref w1), .val (.ref w2), .val (.ref w3), .val (.long q), .second, .val (.int c1), .val (.int c2), .val (.int c3)] [])) st32 ?_
  refine own_via (S' := T32.setTop (mkF m 38 #[.val (.ref a), .val (.ref w1), .val (.ref w2), .val (.ref w3), .val (.long q), .second, .val (.int c1), .val (.int c2), .val (.int c3)] [(.ref a)])) (fun t k => XS.aloadN X32.here hx rfl (hb hby d11_37) rfl rfl k) ?_
  refine own_via (S' := T32.setTop (mkF m 40 #[.val (.ref a), .val (.ref w1), .val (.ref w2), .val (.ref w3), .val (.long q), .second, .val (.int c1), .val (.int c2), .val (.int c3)] [(.int c3), (.ref a)])) (fun t k => XS.iload X32.here hx rfl (hb hby d11_38) rfl k) ?_
  have cx36 : Exa Z h32 a "com/example/object_access_rules/objectaccessrules/service/HttpRequest" := (Exa.wr W32 cx30)
  have cx37 : Fld Z h32 a "com/example/object_access_rules/objectaccessrules/service/HttpRequest" "expectsContinue" "Z" (.int (0 : Int32)) := (Fld.other W32 (Fld.other W26 (Fld.other W20 (Fld.other W14 (Fld.other W8 (Fld.other W2 f0_F_a_expectsContinue (Or.inr (slot_ne (Or.inr (wd70 hw)) (Or.inr (wd58 hw)) (by decide) (t := .boolean) (t' := (.object "java/lang/String")) (by decide) (by decide)))) (Or.inr (slot_ne (Or.inr (wd70 hw)) (Or.inr (wd60 hw)) (by decide) (t := .boolean) (t' := (.object "java/lang/String")) (by decide) (by decide)))) (Or.inr (slot_ne (Or.inr (wd70 hw)) (Or.inr (wd62 hw)) (by decide) (t := .boolean) (t' := (.object "java/lang/String")) (by decide) (by decide)))) (Or.inr (slot_ne (Or.inr (wd70 hw)) (Or.inr (wd64 hw)) (by decide) (t := .boolean) (t' := .long) (by decide) (by decide)))) (Or.inr (slot_ne (Or.inr (wd70 hw)) (Or.inr (wd66 hw)) (by decide) (t := .boolean) (t' := .boolean) (by decide) (by decide)))) (Or.inr (slot_ne (Or.inr (wd70 hw)) (Or.inr (wd68 hw)) (by decide) (t := .boolean) (t' := .boolean) (by decide) (by decide))))
  obtain ⟨T38, h38, X38, e38, W38, st38⟩ := putFN X32 hx hZ hown (wd69 hw) Via.refl e32 cx37 cx36 (Or.inr ⟨(wd70 hw), rfl, hnm⟩) (wd46 hw) (ty := .boolean) (v' := (.int (nar .boolean c3))) (by decide) rfl (fits_nar_bool _) (g := (mkF m 40 #[.val (.ref a), .val (.ref w1), .val (.ref w2), .val (.ref w3), .val (.long q), .second, .val (.int c1), .val (.int c2), .val (.int c3)] [(.int c3), (.ref a)])) rfl rfl (hb hby d11_40)
  have sz39 : h32.size ≤ h38.size := Nat.le_of_eq W38.size.symm
  have O40 : Old Z n0 h38 := O34.wr W38 (by omega : n0 ≤ a)
  have N38 := Fr.snoc X38 N32 (by omega : n0 ≤ a)
  have K41 : Keep h0 h38 [a] := K35.wr W38 (Or.inl (List.mem_of_getElem? (i := 0) rfl))
  have Fw38 : Fld Z h38 a "com/example/object_access_rules/objectaccessrules/service/HttpRequest" "expectsContinue" "Z" (.int (nar .boolean c3)) := Fld.same W38 cx37
  refine own_via (S' := T38.setTop (mkF m 43 #[.val (.ref a), .val (.ref w1), .val (.ref w2), .val (.ref w3), .val (.long q), .second, .val (.int c1), .val (.int c2), .val (.int c3)] [])) st38 ?_
  have cx42 : Fld Z h38 a "com/example/object_access_rules/objectaccessrules/service/HttpRequest" "contentLength" "J" (.long q) := (Fld.other W38 (Fld.other W32 (Fld.other W26 Fw20 (Or.inr (slot_ne (Or.inr (wd64 hw)) (Or.inr (wd66 hw)) (by decide) (t := .long) (t' := .boolean) (by decide) (by decide)))) (Or.inr (slot_ne (Or.inr (wd64 hw)) (Or.inr (wd68 hw)) (by decide) (t := .long) (t' := .boolean) (by decide) (by decide)))) (Or.inr (slot_ne (Or.inr (wd64 hw)) (Or.inr (wd70 hw)) (by decide) (t := .long) (t' := .boolean) (by decide) (by decide))))
  have cx43 : Fld Z h38 a "com/example/object_access_rules/objectaccessrules/service/HttpRequest" "chunked" "Z" (.int (nar .boolean c1)) := (Fld.other W38 (Fld.other W32 Fw26 (Or.inr (slot_ne (Or.inr (wd66 hw)) (Or.inr (wd68 hw)) (by decide) (t := .boolean) (t' := .boolean) (by decide) (by decide)))) (Or.inr (slot_ne (Or.inr (wd66 hw)) (Or.inr (wd70 hw)) (by decide) (t := .boolean) (t' := .boolean) (by decide) (by decide))))
  refine own_ret (Q := Q_own_hrR Z a w1 w2 w3 q c1 c2 c3 h0 n0) (C := ({ frames := 2, cells := 0, slots := 0, locals := 24 } : Room).cells) (N := ({ frames := 2, cells := 0, slots := 0, locals := 24 } : Room).slots) X38 (v := none) (fun _ => rfl) Bd.notSynchronized ?_ (by decide) (by decide) (fun fs hr => X38.returnOut hx Bd.returns (hb hby d11_43) hr)
  show Q_own_hrR Z a w1 w2 w3 q c1 c2 c3 h0 n0 _ T38.heap _
  rw [e38]
  exact ⟨rfl, N38, K41, cx42, cx43⟩
def Q_own_hasBody (Z : State) (a : Addr) (q : Int64) (c1 : Int32) (h0 : Heap) (n0 : Nat) (v : Option Value) (h : Heap) (L : List Loc) : Prop := ∃ z : Int32, v = some (.int z) ∧ L = [] ∧ h = h0 ∧ (z = (if c1 = (0 : Int32) then (if (0 : Int64) < q then (1 : Int32) else (0 : Int32)) else (1 : Int32)))
set_option maxRecDepth 65536 in
set_option maxHeartbeats 40000000 in
theorem own_hasBody (l : Launch) (Z : State) (a0 : Array Value) (hw : ∀ d ∈ tables_1, d.before a0 Z = true) (ws : List Jvm.Cond) (a : Addr) (q : Int64) (c1 : Int32) (h0 : Heap) (n0 : Nat) (O0 : Old Z n0 h0) (f0_F_a_contentLength : Fld Z h0 a "com/example/object_access_rules/objectaccessrules/service/HttpRequest" "contentLength" "J" (.long q)) (f0_F_a_chunked : Fld Z h0 a "com/example/object_access_rules/objectaccessrules/service/HttpRequest" "chunked" "Z" (.int c1)) :
    MetFree l mt6 (head1 (Jvm.Cond.code mt6 prog_113_method_2_code 1 (some .boolean) :: ws) ({ frames := 0, cells := 0, slots := 0, locals := 0 } : Room)) (fun aq U => aq = #[(.ref a)] ∧ Z.Warmed39 U.vm ∧ U.heap = h0) (fun _ _ _ _ _ => True) (fun _ U o U' => ∃ v L, o = .returned v ∧ Q_own_hasBody Z a q c1 h0 n0 v U'.heap L ∧ FrameEnd U o U' L ({ frames := 0, cells := 0, slots := 0, locals := 0 } : Room).cells ({ frames := 0, cells := 0, slots := 0, locals := 0 } : Room).slots) := by
  refine MetFree.of_bodySF (plainFor_of_name pn_com_example_object_access_rules_objectaccessrules_service_HttpRequest) hisR ?_
  intro p e s m args below meth c s₁ Bd hml0 hP hK
  obtain ⟨rfl, hZ, hh⟩ := hP
  have hx := Bd.exec
  have hby := Bd.bytes
  have hml : c.maxLocals = 1 := hml0
  have hown : s.vm.findClass "com/example/object_access_rules/objectaccessrules/service/HttpRequest" = some m.cls := findClass_of_methodNamed Bd.named
  have hnm := (name_of_methodNamed Bd.named Bd.method).1
  have X0 : Stand p l e ({ frames := 0, cells := 0, slots := 0, locals := 0 } : Room) s m #[(.ref a)] below meth c s₁ [] 0 0 := Stand.of_body Bd
  have e0 : s₁.heap = h0 := by rw [← hh, Bd.state]; rfl
  have N0 := Fr.nil n0
  have zO := O0.1
  have zO2 := O0.2.1
  have fl_F_a_contentLength : h0.size > a := f0_F_a_contentLength.lt
  have fl_F_a_chunked : h0.size > a := f0_F_a_chunked.lt
  refine own_open (own_via (S' := s₁.setTop (mkF m 0 #[.val (.ref a)] [])) (fun t k => castTop (ef_own_hasBody m a) k) ?_)
  refine own_via (S' := s₁.setTop (mkF m 1 #[.val (.ref a)] [(.ref a)])) (fun t k => XS.aloadN X0.here hx rfl (hb hby d13_0) rfl rfl k) ?_
  obtain ⟨T1, X1, e1, st1⟩ := getF X0 hx hZ hown (host := "") (Or.inl (wd65 hw)) Via.refl e0 f0_F_a_chunked (g := (mkF m 1 #[.val (.ref a)] [(.ref a)])) rfl rfl (hb hby d13_1)
  refine own_via (S' := T1.setTop (mkF m 4 #[.val (.ref a)] [(.int c1)])) st1 ?_
  by_cases hc4_2 : c1 = (0 : Int32)
  · -- yes
    refine own_via (S' := T1.setTop (mkF m 7 #[.val (.ref a)] [])) (fun t k => XS.ifNo X1.here hx rfl (hb hby d13_4) rfl ((if0 _ _).trans (teq hc4_2).2) k) ?_
    refine own_via (S' := T1.setTop (mkF m 8 #[.val (.ref a)] [(.ref a)])) (fun t k => XS.aloadN X1.here hx rfl (hb hby d13_7) rfl rfl k) ?_
    obtain ⟨T3, X3, e3, st3⟩ := getF X1 hx hZ hown (host := "") (Or.inl (wd63 hw)) Via.refl e1 f0_F_a_contentLength (g := (mkF m 8 #[.val (.ref a)] [(.ref a)])) rfl rfl (hb hby d13_8)
    refine own_via (S' := T3.setTop (mkF m 11 #[.val (.ref a)] [(.long q)])) st3 ?_
    refine own_via (S' := T3.setTop (mkF m 12 #[.val (.ref a)] [(.long (0 : Int64)), (.long q)])) (fun t k => XS.lconst X3.here hx rfl (hb hby d13_11) k) ?_
    refine own_via (S' := T3.setTop (mkF m 13 #[.val (.ref a)] [(.int (lcmpW q (0 : Int64)))])) (fun t k => XS.lcmp X3.here hx rfl (hb hby d13_12) rfl k) ?_
    by_cases hc13_4 : (0 : Int64) < q
    · -- yes
      refine own_via (S' := T3.setTop (mkF m 16 #[.val (.ref a)] [])) (fun t k => XS.ifNo X3.here hx rfl (hb hby d13_13) rfl ((if0 _ _).trans (tlt ((lw_gt _ _).mpr hc13_4)).2.2.2) k) ?_
      refine own_via (S' := T3.setTop (mkF m 17 #[.val (.ref a)] [(.int (1 : Int32))])) (fun t k => XS.iconst X3.here hx rfl (hb hby d13_16) k) ?_
      refine own_via (S' := T3.setTop (mkF m 21 #[.val (.ref a)] [(.int (1 : Int32))])) (fun t k => XS.goto X3.here hx rfl (pc0 := 17) (pc' := 21) rfl (hb hby d13_17) (by decide) (by decide) k) ?_
      refine own_ret (Q := Q_own_hasBody Z a q c1 h0 n0) (C := ({ frames := 0, cells := 0, slots := 0, locals := 0 } : Room).cells) (N := ({ frames := 0, cells := 0, slots := 0, locals := 0 } : Room).slots) X3 (v := some (.int (1 : Int32))) (fun h => by rw [Bd.returns] at h; cases h) Bd.notSynchronized ?_ (by decide) (by decide) (fun fs hr => retN X3 hx (t := .boolean) Bd.returns (by simp) (hb hby d13_21) hr)
      show Q_own_hasBody Z a q c1 h0 n0 _ T3.heap _
      rw [e3]
      exact ⟨(1 : Int32), rfl, rfl, rfl, (((if_pos hc4_2).trans (if_pos hc13_4))).symm⟩
    · -- no
      refine own_via (S' := T3.setTop (mkF m 20 #[.val (.ref a)] [])) (fun t k => XS.ifYes X3.here hx rfl (pc0 := 13) (pc' := 20) rfl (hb hby d13_13) rfl ((if0 _ _).trans (flt (fun q => hc13_4 ((lw_gt _ _).mp q))).2.2.2) (by decide) (by decide) k) ?_
      refine own_via (S' := T3.setTop (mkF m 21 #[.val (.ref a)] [(.int (0 : Int32))])) (fun t k => XS.iconst X3.here hx rfl (hb hby d13_20) k) ?_
      refine own_ret (Q := Q_own_hasBody Z a q c1 h0 n0) (C := ({ frames := 0, cells := 0, slots := 0, locals := 0 } : Room).cells) (N := ({ frames := 0, cells := 0, slots := 0, locals := 0 } : Room).slots) X3 (v := some (.int (0 : Int32))) (fun h => by rw [Bd.returns] at h; cases h) Bd.notSynchronized ?_ (by decide) (by decide) (fun fs hr => retN X3 hx (t := .boolean) Bd.returns (by simp) (hb hby d13_21) hr)
      show Q_own_hasBody Z a q c1 h0 n0 _ T3.heap _
      rw [e3]
      exact ⟨(0 : Int32), rfl, rfl, rfl, (((if_pos hc4_2).trans (if_neg hc13_4))).symm⟩
  · -- no
    refine own_via (S' := T1.setTop (mkF m 16 #[.val (.ref a)] [])) (fun t k => XS.ifYes X1.here hx rfl (pc0 := 4) (pc' := 16) rfl (hb hby d13_4) rfl ((if0 _ _).trans (feq hc4_2).2) (by decide) (by decide) k) ?_
    refine own_via (S' := T1.setTop (mkF m 17 #[.val (.ref a)] [(.int (1 : Int32))])) (fun t k => XS.iconst X1.here hx rfl (hb hby d13_16) k) ?_
    refine own_via (S' := T1.setTop (mkF m 21 #[.val (.ref a)] [(.int (1 : Int32))])) (fun t k => XS.goto X1.here hx rfl (pc0 := 17) (pc' := 21) rfl (hb hby d13_17) (by decide) (by decide) k) ?_
    refine own_ret (Q := Q_own_hasBody Z a q c1 h0 n0) (C := ({ frames := 0, cells := 0, slots := 0, locals := 0 } : Room).cells) (N := ({ frames := 0, cells := 0, slots := 0, locals := 0 } : Room).slots) X1 (v := some (.int (1 : Int32))) (fun h => by rw [Bd.returns] at h; cases h) Bd.notSynchronized ?_ (by decide) (by decide) (fun fs hr => retN X1 hx (t := .boolean) Bd.returns (by simp) (hb hby d13_21) hr)
    show Q_own_hasBody Z a q c1 h0 n0 _ T1.heap _
    rw [e1]
    exact ⟨(1 : Int32), rfl, rfl, rfl, ((if_neg hc4_2)).symm⟩
def Q_own_law (Z : State) (q0 : Int64) (p1 : Int32) (p2 : Int32) (p3 : Int32) (zc : Int32) (h0 : Heap) (n0 : Nat) (v : Option Value) (h : Heap) (L : List Loc) : Prop := v = some (.int (1 : Int32)) ∧ Fr n0 L
set_option maxRecDepth 65536 in
set_option maxHeartbeats 40000000 in
theorem own_law (l : Launch) (Z : State) (a0 : Array Value) (hw : ∀ d ∈ tables_1, d.before a0 Z = true) (ws : List Jvm.Cond) (q0 : Int64) (p1 : Int32) (p2 : Int32) (p3 : Int32) (zc : Int32) (h0 : Heap) (n0 : Nat) (O0 : Old Z n0 h0) (zf_S_java_lang_String_COMPACT_STRINGS : Sta Z Z.heap "java/lang/String" "COMPACT_STRINGS" "Z" (.int zc)) (hzc : ¬ (zc = (0 : Int32))) :
    MetFree l x (head1 (Jvm.Cond.code x code maxLocals ret :: ws) room_1) (fun aq U => aq = #[(.long q0), (.int p1), (.int p2), (.int p3)] ∧ Z.Warmed39 U.vm ∧ U.heap = h0) (fun _ _ _ _ _ => True) (fun _ U o U' => ∃ v L, o = .returned v ∧ Q_own_law Z q0 p1 p2 p3 zc h0 n0 v U'.heap L ∧ FrameEnd U o U' L room_1.cells room_1.slots) := by
  refine MetFree.of_bodySF (plainFor_of_name pn_com_example_object_access_rules_objectaccessrules_service_HttpRequestHasBodyPinLaw) hisR ?_
  intro p e s m args below meth c s₁ Bd hml0 hP hK
  obtain ⟨rfl, hZ, hh⟩ := hP
  have hx := Bd.exec
  have hby := Bd.bytes
  have hml : c.maxLocals = 17 := hml0
  have hown : s.vm.findClass "com/example/object_access_rules/objectaccessrules/service/HttpRequestHasBodyPinLaw" = some m.cls := findClass_of_methodNamed Bd.named
  have hnm := (name_of_methodNamed Bd.named Bd.method).1
  have X0 : Stand p l e room_1 s m #[(.long q0), (.int p1), (.int p2), (.int p3)] below meth c s₁ [] 0 0 := Stand.of_body Bd
  have e0 : s₁.heap = h0 := by rw [← hh, Bd.state]; rfl
  have N0 := Fr.nil n0
  have zO := O0.1
  have zO2 := O0.2.1
  refine own_open (own_via (S' := s₁.setTop (mkF m 0 #[.val (.long q0), .second, .val (.int p1), .val (.int p2), .val (.int p3), .unset, .unset, .unset, .unset, .unset, .unset, .unset, .unset, .unset, .unset, .unset, .unset] [])) (fun t k => castTop (ef_own_law m q0 p1 p2 p3) k) ?_)
  refine own_via (S' := s₁.setTop (mkF m 1 #[.val (.long q0), .second, .val (.int p1), .val (.int p2), .val (.int p3), .unset, .unset, .unset, .unset, .unset, .unset, .unset, .unset, .unset, .unset, .unset, .unset] [(.int p1)])) (fun t k => XS.iloadN X0.here hx rfl (hb hby at_0) rfl k) ?_
  refine own_via (S' := s₁.setTop (mkF m 2 #[.val (.long q0), .second, .val (.int p1), .val (.int p2), .val (.int p3), .unset, .unset, .unset, .unset, .unset, .unset, .unset, .unset, .unset, .unset, .unset, .unset] [(.int (1 : Int32)), (.int p1)])) (fun t k => XS.iconst X0.here hx rfl (hb hby at_1) k) ?_
  refine own_via (S' := s₁.setTop (mkF m 3 #[.val (.long q0), .second, .val (.int p1), .val (.int p2), .val (.int p3), .unset, .unset, .unset, .unset, .unset, .unset, .unset, .unset, .unset, .unset, .unset, .unset] [(.int (p1 &&& (1 : Int32)))])) (fun t k => XS.iand X0.here hx rfl (hb hby at_2) rfl k) ?_
  obtain ⟨z1_0, hz1_0⟩ : ∃ z : Int32, z = (if (p1 &&& (1 : Int32)) = (0 : Int32) then (0 : Int32) else (1 : Int32)) := ⟨_, rfl⟩
  suffices jn1 : ∀ (Tm1 : State), Stand p l e room_1 s m #[(.long q0), (.int p1), (.int p2), (.int p3)] below meth c Tm1 [] 0 0 → Tm1.heap = h0 → own_Done p e below (fun o U' => ∃ v L, o = .returned v ∧ Q_own_law Z q0 p1 p2 p3 zc h0 n0 v U'.heap L ∧ FrameEnd s o U' L room_1.cells room_1.slots) (Tm1.setTop (mkF m 11 #[.val (.long q0), .second, .val (.int p1), .val (.int p2), .val (.int p3), .unset, .unset, .unset, .unset, .unset, .unset, .unset, .unset, .unset, .unset, .unset, .unset] [(.int z1_0)])) by
    by_cases hc3_2 : (p1 &&& (1 : Int32)) = (0 : Int32)
    · -- yes
      refine own_via (S' := s₁.setTop (mkF m 10 #[.val (.long q0), .second, .val (.int p1), .val (.int p2), .val (.int p3), .unset, .unset, .unset, .unset, .unset, .unset, .unset, .unset, .unset, .unset, .unset, .unset] [])) (fun t k => XS.ifYes X0.here hx rfl (pc0 := 3) (pc' := 10) rfl (hb hby at_3) rfl ((if0 _ _).trans (teq hc3_2).1) (by decide) (by decide) k) ?_
      refine own_via (S' := s₁.setTop (mkF m 11 #[.val (.long q0), .second, .val (.int p1), .val (.int p2), .val (.int p3), .unset, .unset, .unset, .unset, .unset, .unset, .unset, .unset, .unset, .unset, .unset, .unset] [(.int (0 : Int32))])) (fun t k => XS.iconst X0.here hx rfl (hb hby at_10) k) ?_
      have qz1_0 : z1_0 = (0 : Int32) := hz1_0.trans (if_pos hc3_2)
      rw [qz1_0] at jn1
      exact jn1 _ X0 e0
    · -- no
      refine own_via (S' := s₁.setTop (mkF m 6 #[.val (.long q0), .second, .val (.int p1), .val (.int p2), .val (.int p3), .unset, .unset, .unset, .unset, .unset, .unset, .unset, .unset, .unset, .unset, .unset, .unset] [])) (fun t k => XS.ifNo X0.here hx rfl (hb hby at_3) rfl ((if0 _ _).trans (feq hc3_2).1) k) ?_
      refine own_via (S' := s₁.setTop (mkF m 7 #[.val (.long q0), .second, .val (.int p1), .val (.int p2), .val (.int p3), .unset, .unset, .unset, .unset, .unset, .unset, .unset, .unset, .unset, .unset, .unset, .unset] [(.int (1 : Int32))])) (fun t k => XS.iconst X0.here hx rfl (hb hby at_6) k) ?_
      refine own_via (S' := s₁.setTop (mkF m 11 #[.val (.long q0), .second, .val (.int p1), .val (.int p2), .val (.int p3), .unset, .unset, .unset, .unset, .unset, .unset, .unset, .unset, .unset, .unset, .unset, .unset] [(.int (1 : Int32))])) (fun t k => XS.goto X0.here hx rfl (pc0 := 7) (pc' := 11) rfl (hb hby at_7) (by decide) (by decide) k) ?_
      have qz1_0 : z1_0 = (1 : Int32) := hz1_0.trans (if_neg hc3_2)
      rw [qz1_0] at jn1
      exact jn1 _ X0 e0
  intro Tm1 Xm1 em1
  refine own_via (S' := Tm1.setTop (mkF m 13 #[.val (.long q0), .second, .val (.int p1), .val (.int p2), .val (.int p3), .val (.int z1_0), .unset, .unset, .unset, .unset, .unset, .unset, .unset, .unset, .unset, .unset, .unset] [])) (fun t k => XS.istore Xm1.here hx rfl (hb hby at_11) rfl (l' := #[.val (.long q0), .second, .val (.int p1), .val (.int p2), .val (.int p3), .val (.int z1_0), .unset, .unset, .unset, .unset, .unset, .unset, .unset, .unset, .unset, .unset, .unset]) rfl k) ?_
  refine own_via (S' := Tm1.setTop (mkF m 14 #[.val (.long q0), .second, .val (.int p1), .val (.int p2), .val (.int p3), .val (.int z1_0), .unset, .unset, .unset, .unset, .unset, .unset, .unset, .unset, .unset, .unset, .unset] [(.int p1)])) (fun t k => XS.iloadN Xm1.here hx rfl (hb hby at_13) rfl k) ?_
  refine own_via (S' := Tm1.setTop (mkF m 15 #[.val (.long q0), .second, .val (.int p1), .val (.int p2), .val (.int p3), .val (.int z1_0), .unset, .unset, .unset, .unset, .unset, .unset, .unset, .unset, .unset, .unset, .unset] [(.int (2 : Int32)), (.int p1)])) (fun t k => XS.iconst Xm1.here hx rfl (hb hby at_14) k) ?_
  refine own_via (S' := Tm1.setTop (mkF m 16 #[.val (.long q0), .second, .val (.int p1), .val (.int p2), .val (.int p3), .val (.int z1_0), .unset, .unset, .unset, .unset, .unset, .unset, .unset, .unset, .unset, .unset, .unset] [(.int (p1 &&& (2 : Int32)))])) (fun t k => XS.iand Xm1.here hx rfl (hb hby at_15) rfl k) ?_
  obtain ⟨z3_0, hz3_0⟩ : ∃ z : Int32, z = (if (p1 &&& (2 : Int32)) = (0 : Int32) then (0 : Int32) else (1 : Int32)) := ⟨_, rfl⟩
  suffices jn3 : ∀ (Tm3 : State), Stand p l e room_1 s m #[(.long q0), (.int p1), (.int p2), (.int p3)] below meth c Tm3 [] 0 0 → Tm3.heap = h0 → own_Done p e below (fun o U' => ∃ v L, o = .returned v ∧ Q_own_law Z q0 p1 p2 p3 zc h0 n0 v U'.heap L ∧ FrameEnd s o U' L room_1.cells room_1.slots) (Tm3.setTop (mkF m 24 #[.val (.long q0), .second, .val (.int p1), .val (.int p2), .val (.int p3), .val (.int z1_0), .unset, .unset, .unset, .unset, .unset, .unset, .unset, .unset, .unset, .unset, .unset] [(.int z3_0)])) by
    by_cases hc16_4 : (p1 &&& (2 : Int32)) = (0 : Int32)
    · -- yes
      refine own_via (S' := Tm1.setTop (mkF m 23 #[.val (.long q0), .second, .val (.int p1), .val (.int p2), .val (.int p3), .val (.int z1_0), .unset, .unset, .unset, .unset, .unset, .unset, .unset, .unset, .unset, .unset, .unset] [])) (fun t k => XS.ifYes Xm1.here hx rfl (pc0 := 16) (pc' := 23) rfl (hb hby at_16) rfl ((if0 _ _).trans (teq hc16_4).1) (by decide) (by decide) k) ?_
      refine own_via (S' := Tm1.setTop (mkF m 24 #[.val (.long q0), .second, .val (.int p1), .val (.int p2), .val (.int p3), .val (.int z1_0), .unset, .unset, .unset, .unset, .unset, .unset, .unset, .unset, .unset, .unset, .unset] [(.int (0 : Int32))])) (fun t k => XS.iconst Xm1.here hx rfl (hb hby at_23) k) ?_
      have qz3_0 : z3_0 = (0 : Int32) := hz3_0.trans (if_pos hc16_4)
      rw [qz3_0] at jn3
      exact jn3 _ Xm1 em1
    · -- no
      refine own_via (S' := Tm1.setTop (mkF m 19 #[.val (.long q0), .second, .val (.int p1), .val (.int p2), .val (.int p3), .val (.int z1_0), .unset, .unset, .unset, .unset, .unset, .unset, .unset, .unset, .unset, .unset, .unset] [])) (fun t k => XS.ifNo Xm1.here hx rfl (hb hby at_16) rfl ((if0 _ _).trans (feq hc16_4).1) k) ?_
      refine own_via (S' := Tm1.setTop (mkF m 20 #[.val (.long q0), .second, .val (.int p1), .val (.int p2), .val (.int p3), .val (.int z1_0), .unset, .unset, .unset, .unset, .unset, .unset, .unset, .unset, .unset, .unset, .unset] [(.int (1 : Int32))])) (fun t k => XS.iconst Xm1.here hx rfl (hb hby at_19) k) ?_
      refine own_via (S' := Tm1.setTop (mkF m 24 #[.val (.long q0), .second, .val (.int p1), .val (.int p2), .val (.int p3), .val (.int z1_0), .unset, .unset, .unset, .unset, .unset, .unset, .unset, .unset, .unset, .unset, .unset] [(.int (1 : Int32))])) (fun t k => XS.goto Xm1.here hx rfl (pc0 := 20) (pc' := 24) rfl (hb hby at_20) (by decide) (by decide) k) ?_
      have qz3_0 : z3_0 = (1 : Int32) := hz3_0.trans (if_neg hc16_4)
      rw [qz3_0] at jn3
      exact jn3 _ Xm1 em1
  intro Tm3 Xm3 em3
  refine own_via (S' := Tm3.setTop (mkF m 26 #[.val (.long q0), .second, .val (.int p1), .val (.int p2), .val (.int p3), .val (.int z1_0), .val (.int z3_0), .unset, .unset, .unset, .unset, .unset, .unset, .unset, .unset, .unset, .unset] [])) (fun t k => XS.istore Xm3.here hx rfl (hb hby at_24) rfl (l' := #[.val (.long q0), .second, .val (.int p1), .val (.int p2), .val (.int p3), .val (.int z1_0), .val (.int z3_0), .unset, .unset, .unset, .unset, .unset, .unset, .unset, .unset, .unset, .unset]) rfl k) ?_
  refine own_via (S' := Tm3.setTop (mkF m 27 #[.val (.long q0), .second, .val (.int p1), .val (.int p2), .val (.int p3), .val (.int z1_0), .val (.int z3_0), .unset, .unset, .unset, .unset, .unset, .unset, .unset, .unset, .unset, .unset] [(.int p1)])) (fun t k => XS.iloadN Xm3.here hx rfl (hb hby at_26) rfl k) ?_
  refine own_via (S' := Tm3.setTop (mkF m 28 #[.val (.long q0), .second, .val (.int p1), .val (.int p2), .val (.int p3), .val (.int z1_0), .val (.int z3_0), .unset, .unset, .unset, .unset, .unset, .unset, .unset, .unset, .unset, .unset] [(.int (4 : Int32)), (.int p1)])) (fun t k => XS.iconst Xm3.here hx rfl (hb hby at_27) k) ?_
  refine own_via (S' := Tm3.setTop (mkF m 29 #[.val (.long q0), .second, .val (.int p1), .val (.int p2), .val (.int p3), .val (.int z1_0), .val (.int z3_0), .unset, .unset, .unset, .unset, .unset, .unset, .unset, .unset, .unset, .unset] [(.int (p1 &&& (4 : Int32)))])) (fun t k => XS.iand Xm3.here hx rfl (hb hby at_28) rfl k) ?_
  obtain ⟨z5_0, hz5_0⟩ : ∃ z : Int32, z = (if (p1 &&& (4 : Int32)) = (0 : Int32) then (0 : Int32) else (1 : Int32)) := ⟨_, rfl⟩
  suffices jn5 : ∀ (Tm5 : State), Stand p l e room_1 s m #[(.long q0), (.int p1), (.int p2), (.int p3)] below meth c Tm5 [] 0 0 → Tm5.heap = h0 → own_Done p e below (fun o U' => ∃ v L, o = .returned v ∧ Q_own_law Z q0 p1 p2 p3 zc h0 n0 v U'.heap L ∧ FrameEnd s o U' L room_1.cells room_1.slots) (Tm5.setTop (mkF m 37 #[.val (.long q0), .second, .val (.int p1), .val (.int p2), .val (.int p3), .val (.int z1_0), .val (.int z3_0), .unset, .unset, .unset, .unset, .unset, .unset, .unset, .unset, .unset, .unset] [(.int z5_0)])) by
    by_cases hc29_6 : (p1 &&& (4 : Int32)) = (0 : Int32)
    · -- yes
      refine own_via (S' := Tm3.setTop (mkF m 36 #[.val (.long q0), .second, .val (.int p1), .val (.int p2), .val (.int p3), .val (.int z1_0), .val (.int z3_0), .unset, .unset, .unset, .unset, .unset, .unset, .unset, .unset, .unset, .unset] [])) (fun t k => XS.ifYes Xm3.here hx rfl (pc0 := 29) (pc' := 36) rfl (hb hby at_29) rfl ((if0 _ _).trans (teq hc29_6).1) (by decide) (by decide) k) ?_
      refine own_via (S' := Tm3.setTop (mkF m 37 #[.val (.long q0), .second, .val (.int p1), .val (.int p2), .val (.int p3), .val (.int z1_0), .val (.int z3_0), .unset, .unset, .unset, .unset, .unset, .unset, .unset, .unset, .unset, .unset] [(.int (0 : Int32))])) (fun t k => XS.iconst Xm3.here hx rfl (hb hby at_36) k) ?_
      have qz5_0 : z5_0 = (0 : Int32) := hz5_0.trans (if_pos hc29_6)
      rw [qz5_0] at jn5
      exact jn5 _ Xm3 em3
    · -- no
      refine own_via (S' := Tm3.setTop (mkF m 32 #[.val (.long q0), .second, .val (.int p1), .val (.int p2), .val (.int p3), .val (.int z1_0), .val (.int z3_0), .unset, .unset, .unset, .unset, .unset, .unset, .unset, .unset, .unset, .unset] [])) (fun t k => XS.ifNo Xm3.here hx rfl (hb hby at_29) rfl ((if0 _ _).trans (feq hc29_6).1) k) ?_
      refine own_via (S' := Tm3.setTop (mkF m 33 #[.val (.long q0), .second, .val (.int p1), .val (.int p2), .val (.int p3), .val (.int z1_0), .val (.int z3_0), .unset, .unset, .unset, .unset, .unset, .unset, .unset, .unset, .unset, .unset] [(.int (1 : Int32))])) (fun t k => XS.iconst Xm3.here hx rfl (hb hby at_32) k) ?_
      refine own_via (S' := Tm3.setTop (mkF m 37 #[.val (.long q0), .second, .val (.int p1), .val (.int p2), .val (.int p3), .val (.int z1_0), .val (.int z3_0), .unset, .unset, .unset, .unset, .unset, .unset, .unset, .unset, .unset, .unset] [(.int (1 : Int32))])) (fun t k => XS.goto Xm3.here hx rfl (pc0 := 33) (pc' := 37) rfl (hb hby at_33) (by decide) (by decide) k) ?_
      have qz5_0 : z5_0 = (1 : Int32) := hz5_0.trans (if_neg hc29_6)
      rw [qz5_0] at jn5
      exact jn5 _ Xm3 em3
  intro Tm5 Xm5 em5
  refine own_via (S' := Tm5.setTop (mkF m 39 #[.val (.long q0), .second, .val (.int p1), .val (.int p2), .val (.int p3), .val (.int z1_0), .val (.int z3_0), .val (.int z5_0), .unset, .unset, .unset, .unset, .unset, .unset, .unset, .unset, .unset] [])) (fun t k => XS.istore Xm5.here hx rfl (hb hby at_37) rfl (l' := #[.val (.long q0), .second, .val (.int p1), .val (.int p2), .val (.int p3), .val (.int z1_0), .val (.int z3_0), .val (.int z5_0), .unset, .unset, .unset, .unset, .unset, .unset, .unset, .unset, .unset]) rfl k) ?_
  refine own_via (S' := Tm5.setTop (mkF m 40 #[.val (.long q0), .second, .val (.int p1), .val (.int p2), .val (.int p3), .val (.int z1_0), .val (.int z3_0), .val (.int z5_0), .unset, .unset, .unset, .unset, .unset, .unset, .unset, .unset, .unset] [(.int p1)])) (fun t k => XS.iloadN Xm5.here hx rfl (hb hby at_39) rfl k) ?_
  refine own_via (S' := Tm5.setTop (mkF m 42 #[.val (.long q0), .second, .val (.int p1), .val (.int p2), .val (.int p3), .val (.int z1_0), .val (.int z3_0), .val (.int z5_0), .unset, .unset, .unset, .unset, .unset, .unset, .unset, .unset, .unset] [(.int (8 : Int32)), (.int p1)])) (fun t k => XS.bipush Xm5.here hx rfl (hb hby at_40) k) ?_
  refine own_via (S' := Tm5.setTop (mkF m 43 #[.val (.long q0), .second, .val (.int p1), .val (.int p2), .val (.int p3), .val (.int z1_0), .val (.int z3_0), .val (.int z5_0), .unset, .unset, .unset, .unset, .unset, .unset, .unset, .unset, .unset] [(.int (p1 &&& (8 : Int32)))])) (fun t k => XS.iand Xm5.here hx rfl (hb hby at_42) rfl k) ?_
  obtain ⟨z7_0, hz7_0⟩ : ∃ z : Int32, z = (if (p1 &&& (8 : Int32)) = (0 : Int32) then (0 : Int32) else (1 : Int32)) := ⟨_, rfl⟩
  suffices jn7 : ∀ (Tm7 : State), Stand p l e room_1 s m #[(.long q0), (.int p1), (.int p2), (.int p3)] below meth c Tm7 [] 0 0 → Tm7.heap = h0 → own_Done p e below (fun o U' => ∃ v L, o = .returned v ∧ Q_own_law Z q0 p1 p2 p3 zc h0 n0 v U'.heap L ∧ FrameEnd s o U' L room_1.cells room_1.slots) (Tm7.setTop (mkF m 51 #[.val (.long q0), .second, .val (.int p1), .val (.int p2), .val (.int p3), .val (.int z1_0), .val (.int z3_0), .val (.int z5_0), .unset, .unset, .unset, .unset, .unset, .unset, .unset, .unset, .unset] [(.int z7_0)])) by
    by_cases hc43_8 : (p1 &&& (8 : Int32)) = (0 : Int32)
    · -- yes
      refine own_via (S' := Tm5.setTop (mkF m 50 #[.val (.long q0), .second, .val (.int p1), .val (.int p2), .val (.int p3), .val (.int z1_0), .val (.int z3_0), .val (.int z5_0), .unset, .unset, .unset, .unset, .unset, .unset, .unset, .unset, .unset] [])) (fun t k => XS.ifYes Xm5.here hx rfl (pc0 := 43) (pc' := 50) rfl (hb hby at_43) rfl ((if0 _ _).trans (teq hc43_8).1) (by decide) (by decide) k) ?_
      refine own_via (S' := Tm5.setTop (mkF m 51 #[.val (.long q0), .second, .val (.int p1), .val (.int p2), .val (.int p3), .val (.int z1_0), .val (.int z3_0), .val (.int z5_0), .unset, .unset, .unset, .unset, .unset, .unset, .unset, .unset, .unset] [(.int (0 : Int32))])) (fun t k => XS.iconst Xm5.here hx rfl (hb hby at_50) k) ?_
      have qz7_0 : z7_0 = (0 : Int32) := hz7_0.trans (if_pos hc43_8)
      rw [qz7_0] at jn7
      exact jn7 _ Xm5 em5
    · -- no
      refine own_via (S' := Tm5.setTop (mkF m 46 #[.val (.long q0), .second, .val (.int p1), .val (.int p2), .val (.int p3), .val (.int z1_0), .val (.int z3_0), .val (.int z5_0), .unset, .unset, .unset, .unset, .unset, .unset, .unset, .unset, .unset] [])) (fun t k => XS.ifNo Xm5.here hx rfl (hb hby at_43) rfl ((if0 _ _).trans (feq hc43_8).1) k) ?_
      refine own_via (S' := Tm5.setTop (mkF m 47 #[.val (.long q0), .second, .val (.int p1), .val (.int p2), .val (.int p3), .val (.int z1_0), .val (.int z3_0), .val (.int z5_0), .unset, .unset, .unset, .unset, .unset, .unset, .unset, .unset, .unset] [(.int (1 : Int32))])) (fun t k => XS.iconst Xm5.here hx rfl (hb hby at_46) k) ?_
      refine own_via (S' := Tm5.setTop (mkF m 51 #[.val (.long q0), .second, .val (.int p1), .val (.int p2), .val (.int p3), .val (.int z1_0), .val (.int z3_0), .val (.int z5_0), .unset, .unset, .unset, .unset, .unset, .unset, .unset, .unset, .unset] [(.int (1 : Int32))])) (fun t k => XS.goto Xm5.here hx rfl (pc0 := 47) (pc' := 51) rfl (hb hby at_47) (by decide) (by decide) k) ?_
      have qz7_0 : z7_0 = (1 : Int32) := hz7_0.trans (if_neg hc43_8)
      rw [qz7_0] at jn7
      exact jn7 _ Xm5 em5
  intro Tm7 Xm7 em7
  refine own_via (S' := Tm7.setTop (mkF m 53 #[.val (.long q0), .second, .val (.int p1), .val (.int p2), .val (.int p3), .val (.int z1_0), .val (.int z3_0), .val (.int z5_0), .val (.int z7_0), .unset, .unset, .unset, .unset, .unset, .unset, .unset, .unset] [])) (fun t k => XS.istore Xm7.here hx rfl (hb hby at_51) rfl (l' := #[.val (.long q0), .second, .val (.int p1), .val (.int p2), .val (.int p3), .val (.int z1_0), .val (.int z3_0), .val (.int z5_0), .val (.int z7_0), .unset, .unset, .unset, .unset, .unset, .unset, .unset, .unset]) rfl k) ?_
  refine own_via (S' := Tm7.setTop (mkF m 54 #[.val (.long q0), .second, .val (.int p1), .val (.int p2), .val (.int p3), .val (.int z1_0), .val (.int z3_0), .val (.int z5_0), .val (.int z7_0), .unset, .unset, .unset, .unset, .unset, .unset, .unset, .unset] [(.long q0)])) (fun t k => XS.lloadN Xm7.here hx rfl (hb hby at_53) rfl k) ?_
  refine own_via (S' := Tm7.setTop (mkF m 57 #[.val (.long q0), .second, .val (.int p1), .val (.int p2), .val (.int p3), .val (.int z1_0), .val (.int z3_0), .val (.int z5_0), .val (.int z7_0), .unset, .unset, .unset, .unset, .unset, .unset, .unset, .unset] [(.long (-1 : Int64)), (.long q0)])) (fun t k => Xm7.ldc2Long hx hown (mvT hZ (wd0 hw)) (g := (mkF m 54 #[.val (.long q0), .second, .val (.int p1), .val (.int p2), .val (.int p3), .val (.int z1_0), .val (.int z3_0), .val (.int z5_0), .val (.int z7_0), .unset, .unset, .unset, .unset, .unset, .unset, .unset, .unset] [(.long q0)])) rfl (hb hby at_54) _ k) ?_
  refine own_via (S' := Tm7.setTop (mkF m 58 #[.val (.long q0), .second, .val (.int p1), .val (.int p2), .val (.int p3), .val (.int z1_0), .val (.int z3_0), .val (.int z5_0), .val (.int z7_0), .unset, .unset, .unset, .unset, .unset, .unset, .unset, .unset] [(.int (lcmpW q0 (-1 : Int64)))])) (fun t k => XS.lcmp Xm7.here hx rfl (hb hby at_57) rfl k) ?_
  obtain ⟨z9_0, hz9_0⟩ : ∃ z : Int64, z = (if q0 < (-1 : Int64) then (q0 &&& (9223372036854775807 : Int64)) else q0) := ⟨_, rfl⟩
  suffices jn9 : ∀ (Tm9 : State), Stand p l e room_1 s m #[(.long q0), (.int p1), (.int p2), (.int p3)] below meth c Tm9 [] 0 0 → Tm9.heap = h0 → own_Done p e below (fun o U' => ∃ v L, o = .returned v ∧ Q_own_law Z q0 p1 p2 p3 zc h0 n0 v U'.heap L ∧ FrameEnd s o U' L room_1.cells room_1.slots) (Tm9.setTop (mkF m 70 #[.val (.long q0), .second, .val (.int p1), .val (.int p2), .val (.int p3), .val (.int z1_0), .val (.int z3_0), .val (.int z5_0), .val (.int z7_0), .unset, .unset, .unset, .unset, .unset, .unset, .unset, .unset] [(.long z9_0)])) by
    by_cases hc58_10 : q0 < (-1 : Int64)
    · -- yes
      refine own_via (S' := Tm7.setTop (mkF m 61 #[.val (.long q0), .second, .val (.int p1), .val (.int p2), .val (.int p3), .val (.int z1_0), .val (.int z3_0), .val (.int z5_0), .val (.int z7_0), .unset, .unset, .unset, .unset, .unset, .unset, .unset, .unset] [])) (fun t k => XS.ifNo Xm7.here hx rfl (hb hby at_58) rfl ((if0 _ _).trans (tlt ((lw_lt _ _).mpr hc58_10)).2.1) k) ?_
      refine own_via (S' := Tm7.setTop (mkF m 62 #[.val (.long q0), .second, .val (.int p1), .val (.int p2), .val (.int p3), .val (.int z1_0), .val (.int z3_0), .val (.int z5_0), .val (.int z7_0), .unset, .unset, .unset, .unset, .unset, .unset, .unset, .unset] [(.long q0)])) (fun t k => XS.lloadN Xm7.here hx rfl (hb hby at_61) rfl k) ?_
      refine own_via (S' := Tm7.setTop (mkF m 65 #[.val (.long q0), .second, .val (.int p1), .val (.int p2), .val (.int p3), .val (.int z1_0), .val (.int z3_0), .val (.int z5_0), .val (.int z7_0), .unset, .unset, .unset, .unset, .unset, .unset, .unset, .unset] [(.long (9223372036854775807 : Int64)), (.long q0)])) (fun t k => Xm7.ldc2Long hx hown (mvT hZ (wd76 hw)) (g := (mkF m 62 #[.val (.long q0), .second, .val (.int p1), .val (.int p2), .val (.int p3), .val (.int z1_0), .val (.int z3_0), .val (.int z5_0), .val (.int z7_0), .unset, .unset, .unset, .unset, .unset, .unset, .unset, .unset] [(.long q0)])) rfl (hb hby at_62) _ k) ?_
      refine own_via (S' := Tm7.setTop (mkF m 66 #[.val (.long q0), .second, .val (.int p1), .val (.int p2), .val (.int p3), .val (.int z1_0), .val (.int z3_0), .val (.int z5_0), .val (.int z7_0), .unset, .unset, .unset, .unset, .unset, .unset, .unset, .unset] [(.long (q0 &&& (9223372036854775807 : Int64)))])) (fun t k => XS.land Xm7.here hx rfl (hb hby at_65) rfl k) ?_
      refine own_via (S' := Tm7.setTop (mkF m 70 #[.val (.long q0), .second, .val (.int p1), .val (.int p2), .val (.int p3), .val (.int z1_0), .val (.int z3_0), .val (.int z5_0), .val (.int z7_0), .unset, .unset, .unset, .unset, .unset, .unset, .unset, .unset] [(.long (q0 &&& (9223372036854775807 : Int64)))])) (fun t k => XS.goto Xm7.here hx rfl (pc0 := 66) (pc' := 70) rfl (hb hby at_66) (by decide) (by decide) k) ?_
      have qz9_0 : z9_0 = (q0 &&& (9223372036854775807 : Int64)) := hz9_0.trans (if_pos hc58_10)
      rw [qz9_0] at jn9
      exact jn9 _ Xm7 em7
    · -- no
      refine own_via (S' := Tm7.setTop (mkF m 69 #[.val (.long q0), .second, .val (.int p1), .val (.int p2), .val (.int p3), .val (.int z1_0), .val (.int z3_0), .val (.int z5_0), .val (.int z7_0), .unset, .unset, .unset, .unset, .unset, .unset, .unset, .unset] [])) (fun t k => XS.ifYes Xm7.here hx rfl (pc0 := 58) (pc' := 69) rfl (hb hby at_58) rfl ((if0 _ _).trans (flt (fun q => hc58_10 ((lw_lt _ _).mp q))).2.1) (by decide) (by decide) k) ?_
      refine own_via (S' := Tm7.setTop (mkF m 70 #[.val (.long q0), .second, .val (.int p1), .val (.int p2), .val (.int p3), .val (.int z1_0), .val (.int z3_0), .val (.int z5_0), .val (.int z7_0), .unset, .unset, .unset, .unset, .unset, .unset, .unset, .unset] [(.long q0)])) (fun t k => XS.lloadN Xm7.here hx rfl (hb hby at_69) rfl k) ?_
      have qz9_0 : z9_0 = q0 := hz9_0.trans (if_neg hc58_10)
      rw [qz9_0] at jn9
      exact jn9 _ Xm7 em7
  intro Tm9 Xm9 em9
  refine own_via (S' := Tm9.setTop (mkF m 72 #[.val (.long q0), .second, .val (.int p1), .val (.int p2), .val (.int p3), .val (.int z1_0), .val (.int z3_0), .val (.int z5_0), .val (.int z7_0), .val (.long z9_0), .second, .unset, .unset, .unset, .unset, .unset, .unset] [])) (fun t k => XS.lstore Xm9.here hx rfl (hb hby at_70) rfl (l' := #[.val (.long q0), .second, .val (.int p1), .val (.int p2), .val (.int p3), .val (.int z1_0), .val (.int z3_0), .val (.int z5_0), .val (.int z7_0), .val (.long z9_0), .second, .unset, .unset, .unset, .unset, .unset, .unset]) rfl k) ?_
  refine own_via (S' := Tm9.setTop (mkF m 73 #[.val (.long q0), .second, .val (.int p1), .val (.int p2), .val (.int p3), .val (.int z1_0), .val (.int z3_0), .val (.int z5_0), .val (.int z7_0), .val (.long z9_0), .second, .unset, .unset, .unset, .unset, .unset, .unset] [(.int (2 : Int32))])) (fun t k => XS.iconst Xm9.here hx rfl (hb hby at_72) k) ?_
  obtain ⟨T11, h11, k11, X11, e11, E11, A11, st11⟩ := newP (aty := .char) Xm9 hx hZ (wd1 hw) em9 (g := (mkF m 73 #[.val (.long q0), .second, .val (.int p1), .val (.int p2), .val (.int p3), .val (.int z1_0), .val (.int z3_0), .val (.int z5_0), .val (.int z7_0), .val (.long z9_0), .second, .unset, .unset, .unset, .unset, .unset, .unset] [(.int (2 : Int32))])) rfl (hb hby at_73) rfl (by decide : ¬ ((2 : Int32) < (0 : Int32))) (cap := 2) (by decide) (by decide) (by decide) (by decide)
  obtain ⟨b11, g11⟩ : ∃ z, z = h0.size := ⟨_, rfl⟩
  rw [← g11] at A11 st11
  have lt_b11 : h11.size > b11 := A11.lt
  have sz12 : h0.size ≤ h11.size := E11.1
  have O13 : Old Z n0 h11 := O0.ext E11
  have V11 : Arv Z h11 b11 k11 .char (2 : Int32) [(.int (0 : Int32)), (.int (0 : Int32))] (.int (0 : Int32)) := (Arv.new A11 (by decide)).pad (pad_rep [] (.int (0 : Int32)) 2)
  refine own_via (S' := T11.setTop (mkF m 75 #[.val (.long q0), .second, .val (.int p1), .val (.int p2), .val (.int p3), .val (.int z1_0), .val (.int z3_0), .val (.int z5_0), .val (.int z7_0), .val (.long z9_0), .second, .unset, .unset, .unset, .unset, .unset, .unset] [(.ref b11)])) st11 ?_
  refine own_via (S' := T11.setTop (mkF m 77 #[.val (.long q0), .second, .val (.int p1), .val (.int p2), .val (.int p3), .val (.int z1_0), .val (.int z3_0), .val (.int z5_0), .val (.int z7_0), .val (.long z9_0), .second, .val (.ref b11), .unset, .unset, .unset, .unset, .unset] [])) (fun t k => XS.astore X11.here hx rfl (hb hby at_75) rfl rfl (l' := #[.val (.long q0), .second, .val (.int p1), .val (.int p2), .val (.int p3), .val (.int z1_0), .val (.int z3_0), .val (.int z5_0), .val (.int z7_0), .val (.long z9_0), .second, .val (.ref b11), .unset, .unset, .unset, .unset, .unset]) rfl k) ?_
  refine own_via (S' := T11.setTop (mkF m 79 #[.val (.long q0), .second, .val (.int p1), .val (.int p2), .val (.int p3), .val (.int z1_0), .val (.int z3_0), .val (.int z5_0), .val (.int z7_0), .val (.long z9_0), .second, .val (.ref b11), .unset, .unset, .unset, .unset, .unset] [(.ref b11)])) (fun t k => XS.aload X11.here hx rfl (hb hby at_77) rfl rfl k) ?_
  refine own_via (S' := T11.setTop (mkF m 80 #[.val (.long q0), .second, .val (.int p1), .val (.int p2), .val (.int p3), .val (.int z1_0), .val (.int z3_0), .val (.int z5_0), .val (.int z7_0), .val (.long z9_0), .second, .val (.ref b11), .unset, .unset, .unset, .unset, .unset] [(.int (0 : Int32)), (.ref b11)])) (fun t k => XS.iconst X11.here hx rfl (hb hby at_79) k) ?_
  refine own_via (S' := T11.setTop (mkF m 81 #[.val (.long q0), .second, .val (.int p1), .val (.int p2), .val (.int p3), .val (.int z1_0), .val (.int z3_0), .val (.int z5_0), .val (.int z7_0), .val (.long z9_0), .second, .val (.ref b11), .unset, .unset, .unset, .unset, .unset] [(.int p2), (.int (0 : Int32)), (.ref b11)])) (fun t k => XS.iloadN X11.here hx rfl (hb hby at_80) rfl k) ?_
  refine own_via (S' := T11.setTop (mkF m 84 #[.val (.long q0), .second, .val (.int p1), .val (.int p2), .val (.int p3), .val (.int z1_0), .val (.int z3_0), .val (.int z5_0), .val (.int z7_0), .val (.long z9_0), .second, .val (.ref b11), .unset, .unset, .unset, .unset, .unset] [(.int (255 : Int32)), (.int p2), (.int (0 : Int32)), (.ref b11)])) (fun t k => XS.sipush X11.here hx rfl (hb hby at_81) k) ?_
  refine own_via (S' := T11.setTop (mkF m 85 #[.val (.long q0), .second, .val (.int p1), .val (.int p2), .val (.int p3), .val (.int z1_0), .val (.int z3_0), .val (.int z5_0), .val (.int z7_0), .val (.long z9_0), .second, .val (.ref b11), .unset, .unset, .unset, .unset, .unset] [(.int (p2 &&& (255 : Int32))), (.int (0 : Int32)), (.ref b11)])) (fun t k => XS.iand X11.here hx rfl (hb hby at_84) rfl k) ?_
  refine own_via (S' := T11.setTop (mkF m 86 #[.val (.long q0), .second, .val (.int p1), .val (.int p2), .val (.int p3), .val (.int z1_0), .val (.int z3_0), .val (.int z5_0), .val (.int z7_0), .val (.long z9_0), .second, .val (.ref b11), .unset, .unset, .unset, .unset, .unset] [(.int ((p2 &&& (255 : Int32)).toUInt32.toUInt16.toUInt32.toInt32)), (.int (0 : Int32)), (.ref b11)])) (fun t k => XS.i2c X11.here hx rfl (hb hby at_85) rfl k) ?_
  obtain ⟨ch0, hn_ch0⟩ : ∃ z : Int32, z = ((p2 &&& (255 : Int32)).toUInt32.toUInt16.toUInt32.toInt32) := ⟨_, rfl⟩
  rw [← hn_ch0]
  have rng_ch0 : ¬ ch0 < 0 ∧ ¬ (255 : Int32) < ch0 := by rw [hn_ch0]; exact own_and255 _
  obtain ⟨cl14, Ar14, q14, S14, M14, H14, U14⟩ := id V11
  obtain ⟨T14, h14, X14, e14, W14, st14⟩ := stC X11 hx hZ e11 Ar14 (j := (0 : Int32)) (inb_of S14 ⟨by decide, by decide⟩) (g := (mkF m 86 #[.val (.long q0), .second, .val (.int p1), .val (.int p2), .val (.int p3), .val (.int z1_0), .val (.int z3_0), .val (.int z5_0), .val (.int z7_0), .val (.long z9_0), .second, .val (.ref b11), .unset, .unset, .unset, .unset, .unset] [(.int ch0), (.int (0 : Int32)), (.ref b11)])) rfl rfl (hb hby at_86)
  have sz15 : h11.size ≤ h14.size := Nat.le_of_eq W14.size.symm
  have O16 : Old Z n0 h14 := O13.wr W14 (by omega : n0 ≤ b11)
  have N14 := Fr.snoc X14 N0 (by omega : n0 ≤ b11)
  rw [own_narc rng_ch0] at W14
  have V14 : Arv Z h14 b11 k11 .char (2 : Int32) [(.int ch0), (.int (0 : Int32))] (.int (0 : Int32)) := Arv.set Ar14 q14 S14 M14 H14 U14 (own_fitc rng_ch0) W14 0 rfl (Nat.le_of_ble_eq_true rfl)
  refine own_via (S' := T14.setTop (mkF m 87 #[.val (.long q0), .second, .val (.int p1), .val (.int p2), .val (.int p3), .val (.int z1_0), .val (.int z3_0), .val (.int z5_0), .val (.int z7_0), .val (.long z9_0), .second, .val (.ref b11), .unset, .unset, .unset, .unset, .unset] [])) st14 ?_
  refine own_via (S' := T14.setTop (mkF m 89 #[.val (.long q0), .second, .val (.int p1), .val (.int p2), .val (.int p3), .val (.int z1_0), .val (.int z3_0), .val (.int z5_0), .val (.int z7_0), .val (.long z9_0), .second, .val (.ref b11), .unset, .unset, .unset, .unset, .unset] [(.ref b11)])) (fun t k => XS.aload X14.here hx rfl (hb hby at_87) rfl rfl k) ?_
  refine own_via (S' := T14.setTop (mkF m 90 #[.val (.long q0), .second, .val (.int p1), .val (.int p2), .val (.int p3), .val (.int z1_0), .val (.int z3_0), .val (.int z5_0), .val (.int z7_0), .val (.long z9_0), .second, .val (.ref b11), .unset, .unset, .unset, .unset, .unset] [(.int (1 : Int32)), (.ref b11)])) (fun t k => XS.iconst X14.here hx rfl (hb hby at_89) k) ?_
  refine own_via (S' := T14.setTop (mkF m 91 #[.val (.long q0), .second, .val (.int p1), .val (.int p2), .val (.int p3), .val (.int z1_0), .val (.int z3_0), .val (.int z5_0), .val (.int z7_0), .val (.long z9_0), .second, .val (.ref b11), .unset, .unset, .unset, .unset, .unset] [(.int p2), (.int (1 : Int32)), (.ref b11)])) (fun t k => XS.iloadN X14.here hx rfl (hb hby at_90) rfl k) ?_
  refine own_via (S' := T14.setTop (mkF m 93 #[.val (.long q0), .second, .val (.int p1), .val (.int p2), .val (.int p3), .val (.int z1_0), .val (.int z3_0), .val (.int z5_0), .val (.int z7_0), .val (.long z9_0), .second, .val (.ref b11), .unset, .unset, .unset, .unset, .unset] [(.int (8 : Int32)), (.int p2), (.int (1 : Int32)), (.ref b11)])) (fun t k => XS.bipush X14.here hx rfl (hb hby at_91) k) ?_
  refine own_via (S' := T14.setTop (mkF m 94 #[.val (.long q0), .second, .val (.int p1), .val (.int p2), .val (.int p3), .val (.int z1_0), .val (.int z3_0), .val (.int z5_0), .val (.int z7_0), .val (.long z9_0), .second, .val (.ref b11), .unset, .unset, .unset, .unset, .unset] [(.int ((p2.toUInt32 >>> ((8 : Int32) &&& 31).toUInt32).toInt32)), (.int (1 : Int32)), (.ref b11)])) (fun t k => XS.iushr X14.here hx rfl (hb hby at_93) rfl k) ?_
  refine own_via (S' := T14.setTop (mkF m 97 #[.val (.long q0), .second, .val (.int p1), .val (.int p2), .val (.int p3), .val (.int z1_0), .val (.int z3_0), .val (.int z5_0), .val (.int z7_0), .val (.long z9_0), .second, .val (.ref b11), .unset, .unset, .unset, .unset, .unset] [(.int (255 : Int32)), (.int ((p2.toUInt32 >>> ((8 : Int32) &&& 31).toUInt32).toInt32)), (.int (1 : Int32)), (.ref b11)])) (fun t k => XS.sipush X14.here hx rfl (hb hby at_94) k) ?_
  refine own_via (S' := T14.setTop (mkF m 98 #[.val (.long q0), .second, .val (.int p1), .val (.int p2), .val (.int p3), .val (.int z1_0), .val (.int z3_0), .val (.int z5_0), .val (.int z7_0), .val (.long z9_0), .second, .val (.ref b11), .unset, .unset, .unset, .unset, .unset] [(.int (((p2.toUInt32 >>> ((8 : Int32) &&& 31).toUInt32).toInt32) &&& (255 : Int32))), (.int (1 : Int32)), (.ref b11)])) (fun t k => XS.iand X14.here hx rfl (hb hby at_97) rfl k) ?_
  refine own_via (S' := T14.setTop (mkF m 99 #[.val (.long q0), .second, .val (.int p1), .val (.int p2), .val (.int p3), .val (.int z1_0), .val (.int z3_0), .val (.int z5_0), .val (.int z7_0), .val (.long z9_0), .second, .val (.ref b11), .unset, .unset, .unset, .unset, .unset] [(.int ((((p2.toUInt32 >>> ((8 : Int32) &&& 31).toUInt32).toInt32) &&& (255 : Int32)).toUInt32.toUInt16.toUInt32.toInt32)), (.int (1 : Int32)), (.ref b11)])) (fun t k => XS.i2c X14.here hx rfl (hb hby at_98) rfl k) ?_
  obtain ⟨ch1, hn_ch1⟩ : ∃ z : Int32, z = ((((p2.toUInt32 >>> ((8 : Int32) &&& 31).toUInt32).toInt32) &&& (255 : Int32)).toUInt32.toUInt16.toUInt32.toInt32) := ⟨_, rfl⟩
  rw [← hn_ch1]
  have rng_ch1 : ¬ ch1 < 0 ∧ ¬ (255 : Int32) < ch1 := by rw [hn_ch1]; exact own_and255 _
  obtain ⟨cl17, Ar17, q17, S17, M17, H17, U17⟩ := id V14
  obtain ⟨T17, h17, X17, e17, W17, st17⟩ := stC X14 hx hZ e14 Ar17 (j := (1 : Int32)) (inb_of S17 ⟨by decide, by decide⟩) (g := (mkF m 99 #[.val (.long q0), .second, .val (.int p1), .val (.int p2), .val (.int p3), .val (.int z1_0), .val (.int z3_0), .val (.int z5_0), .val (.int z7_0), .val (.long z9_0), .second, .val (.ref b11), .unset, .unset, .unset, .unset, .unset] [(.int ch1), (.int (1 : Int32)), (.ref b11)])) rfl rfl (hb hby at_99)
  have sz18 : h14.size ≤ h17.size := Nat.le_of_eq W17.size.symm
  have O19 : Old Z n0 h17 := O16.wr W17 (by omega : n0 ≤ b11)
  have N17 := Fr.snoc X17 N14 (by omega : n0 ≤ b11)
  rw [own_narc rng_ch1] at W17
  have V17 : Arv Z h17 b11 k11 .char (2 : Int32) [(.int ch0), (.int ch1)] (.int (0 : Int32)) := Arv.set Ar17 q17 S17 M17 H17 U17 (own_fitc rng_ch1) W17 1 rfl (Nat.le_of_ble_eq_true rfl)
  refine own_via (S' := T17.setTop (mkF m 100 #[.val (.long q0), .second, .val (.int p1), .val (.int p2), .val (.int p3), .val (.int z1_0), .val (.int z3_0), .val (.int z5_0), .val (.int z7_0), .val (.long z9_0), .second, .val (.ref b11), .unset, .unset, .unset, .unset, .unset] [])) st17 ?_
  obtain ⟨T20, h20, X20, e20, E20, A20, D20, -, st20⟩ := newO X17 hx hZ hown (wd2 hw) (wd3 hw) (wd4 hw) e17 (g := (mkF m 100 #[.val (.long q0), .second, .val (.int p1), .val (.int p2), .val (.int p3), .val (.int z1_0), .val (.int z3_0), .val (.int z5_0), .val (.int z7_0), .val (.long z9_0), .second, .val (.ref b11), .unset, .unset, .unset, .unset, .unset] [])) rfl (hb hby at_100) (by decide) (by decide)
  obtain ⟨b20, g20⟩ : ∃ z, z = h17.size := ⟨_, rfl⟩
  rw [← g20] at A20 D20 st20
  have lt_b20 : h20.size > b20 := A20.lt
  have sz21 : h17.size ≤ h20.size := E20.1
  have O22 : Old Z n0 h20 := O19.ext E20
  have F20_coder : Fld Z h20 b20 "java/lang/String" "coder" "B" (.int (0 : Int32)) := D20 (Or.inr (wd28 hw)) (ty := .byte) (by decide)
  have F20_value : Fld Z h20 b20 "java/lang/String" "value" "[B" .null := D20 (Or.inr (wd30 hw)) (ty := (.array .byte)) (by decide)
  refine own_via (S' := T20.setTop (mkF m 103 #[.val (.long q0), .second, .val (.int p1), .val (.int p2), .val (.int p3), .val (.int z1_0), .val (.int z3_0), .val (.int z5_0), .val (.int z7_0), .val (.long z9_0), .second, .val (.ref b11), .unset, .unset, .unset, .unset, .unset] [(.ref b20)])) st20 ?_
  refine own_via (S' := T20.setTop (mkF m 104 #[.val (.long q0), .second, .val (.int p1), .val (.int p2), .val (.int p3), .val (.int z1_0), .val (.int z3_0), .val (.int z5_0), .val (.int z7_0), .val (.long z9_0), .second, .val (.ref b11), .unset, .unset, .unset, .unset, .unset] [(.ref b20), (.ref b20)])) (fun t k => XS.dup X20.here hx rfl (hb hby at_103) rfl rfl k) ?_
  refine own_via (S' := T20.setTop (mkF m 106 #[.val (.long q0), .second, .val (.int p1), .val (.int p2), .val (.int p3), .val (.int z1_0), .val (.int z3_0), .val (.int z5_0), .val (.int z7_0), .val (.long z9_0), .second, .val (.ref b11), .unset, .unset, .unset, .unset, .unset] [(.ref b11), (.ref b20), (.ref b20)])) (fun t k => XS.aload X20.here hx rfl (hb hby at_104) rfl rfl k) ?_
  have cx24 : Arv Z h20 b11 k11 .char (2 : Int32) [(.int ch0), (.int ch1)] (.int (0 : Int32)) := (V17.ext E20)
  have cx25 : Sta Z h20 "java/lang/String" "COMPACT_STRINGS" "Z" (.int zc) := zf_S_java_lang_String_COMPACT_STRINGS.ext O22.2
  have hws23 := own_mw hw
  have hp23 : ∀ c ∈ ([ch0, ch1] : List Int32), ¬ c < 0 ∧ ¬ (255 : Int32) < c := by
    intro c hc
    simp only [List.mem_cons, List.not_mem_nil, or_false] at hc
    rcases hc with rfl | rfl
    · exact rng_ch0
    · exact rng_ch1
  obtain ⟨_, _, ⟨T23, Lp23, kp23, np23⟩, -, X23, ⟨Lc23, hQ23, l23, y23, z23⟩, st23⟩ := X20.specialBack hx (y := mt7) rfl hown (mvT hZ (wd5 hw)) (mvT hZ (wd6 hw)) (mvT hZ (wd7 hw)) (by decide) (StrChars.Road.backV (W := 1) hZ hws23 (kI := 4) (wd3 hw) (cs := ([ch0, ch1] : List Int32)) (bs := (([ch0, ch1] : List Int32)).map (fun c => c.toInt8.toInt32)) (n := 2) (by omega : n0 ≤ b20) (by omega : n0 ≤ h20.size) A20 F20_value F20_coder cx24 cx25 hzc rfl rfl (by decide) (by decide) hp23 rfl (by decide) (by decide)) (g := (mkF m 106 #[.val (.long q0), .second, .val (.int p1), .val (.int p2), .val (.int p3), .val (.int z1_0), .val (.int z3_0), .val (.int z5_0), .val (.int z7_0), .val (.long z9_0), .second, .val (.ref b11), .unset, .unset, .unset, .unset, .unset] [(.ref b11), (.ref b20), (.ref b20)])) rfl (by rw [hml]; rfl) (Steps.refl _) (a := b20) (argsL := [(.ref b11)]) (rest := [(.ref b20)]) (lenOf pd___C_V_325 rfl) rfl (by show 2 * 0 + _ ≤ _; exact Nat.le_of_eq rfl) (hb hby at_106) (fun _ _ => ⟨rfl, e20, (by decide : 2 + 1 ≤ _), (by decide : 6 + 2 ≤ _)⟩)
  dsimp only [Pt.U, Pt.locs, Pt.cells, Pt.slots] at X23 l23 y23 z23 st23 hQ23
  subst Lp23 kp23 np23
  obtain ⟨rfl, N23q, K23q, f23_0, f23_1, t23, kb23, tg23, tg23', tn23, f23_2, f23_3⟩ := hQ23
  have N23 := Fr.app N17 N23q
  have sz26 : h20.size ≤ T23.heap.size := K23q.1
  have O27 : Old Z n0 T23.heap := O22.keep K23q (allS (by omega : n0 ≤ b20) all0)
  have lt_t23 : T23.heap.size > t23 := f23_3.lt
  refine own_tr (S' := T23.setTop (mkF m 109 #[.val (.long q0), .second, .val (.int p1), .val (.int p2), .val (.int p3), .val (.int z1_0), .val (.int z3_0), .val (.int z5_0), .val (.int z7_0), .val (.long z9_0), .second, .val (.ref b11), .unset, .unset, .unset, .unset, .unset] [(.ref b20)])) st23 ?_
  refine own_via (S' := T23.setTop (mkF m 111 #[.val (.long q0), .second, .val (.int p1), .val (.int p2), .val (.int p3), .val (.int z1_0), .val (.int z3_0), .val (.int z5_0), .val (.int z7_0), .val (.long z9_0), .second, .val (.ref b11), .val (.ref b20), .unset, .unset, .unset, .unset] [])) (fun t k => XS.astore X23.here hx rfl (hb hby at_109) rfl rfl (l' := #[.val (.long q0), .second, .val (.int p1), .val (.int p2), .val (.int p3), .val (.int z1_0), .val (.int z3_0), .val (.int z5_0), .val (.int z7_0), .val (.long z9_0), .second, .val (.ref b11), .val (.ref b20), .unset, .unset, .unset, .unset]) rfl k) ?_
  refine own_via (S' := T23.setTop (mkF m 113 #[.val (.long q0), .second, .val (.int p1), .val (.int p2), .val (.int p3), .val (.int z1_0), .val (.int z3_0), .val (.int z5_0), .val (.int z7_0), .val (.long z9_0), .second, .val (.ref b11), .val (.ref b20), .unset, .unset, .unset, .unset] [(.int p3)])) (fun t k => XS.iload X23.here hx rfl (hb hby at_111) rfl k) ?_
  refine own_via (S' := T23.setTop (mkF m 116 #[.val (.long q0), .second, .val (.int p1), .val (.int p2), .val (.int p3), .val (.int z1_0), .val (.int z3_0), .val (.int z5_0), .val (.int z7_0), .val (.long z9_0), .second, .val (.ref b11), .val (.ref b20), .unset, .unset, .unset, .unset] [(.int (255 : Int32)), (.int p3)])) (fun t k => XS.sipush X23.here hx rfl (hb hby at_113) k) ?_
  refine own_via (S' := T23.setTop (mkF m 117 #[.val (.long q0), .second, .val (.int p1), .val (.int p2), .val (.int p3), .val (.int z1_0), .val (.int z3_0), .val (.int z5_0), .val (.int z7_0), .val (.long z9_0), .second, .val (.ref b11), .val (.ref b20), .unset, .unset, .unset, .unset] [(.int (p3 &&& (255 : Int32)))])) (fun t k => XS.iand X23.here hx rfl (hb hby at_116) rfl k) ?_
  refine own_via (S' := T23.setTop (mkF m 118 #[.val (.long q0), .second, .val (.int p1), .val (.int p2), .val (.int p3), .val (.int z1_0), .val (.int z3_0), .val (.int z5_0), .val (.int z7_0), .val (.long z9_0), .second, .val (.ref b11), .val (.ref b20), .unset, .unset, .unset, .unset] [(.int ((p3 &&& (255 : Int32)).toUInt32.toUInt16.toUInt32.toInt32))])) (fun t k => XS.i2c X23.here hx rfl (hb hby at_117) rfl k) ?_
  obtain ⟨ch2, hn_ch2⟩ : ∃ z : Int32, z = ((p3 &&& (255 : Int32)).toUInt32.toUInt16.toUInt32.toInt32) := ⟨_, rfl⟩
  rw [← hn_ch2]
  have rng_ch2 : ¬ ch2 < 0 ∧ ¬ (255 : Int32) < ch2 := by rw [hn_ch2]; exact own_and255 _
  obtain ⟨_, _, ⟨T28, Lp28, kp28, np28⟩, -, X28, ⟨Lc28, hQ28, l28, y28, z28⟩, st28⟩ := Jvm.LawKit.callS X23 hx (y := mt4) hown (mvT hZ (wd31 hw)) (mvT hZ (wd32 hw)) (mvT hZ (wd4 hw)) (mvT hZ (wd33 hw)) (by decide) (backOf (W := 0) (own_valueOf l Z a0 hw [] ch2 zc T23.heap n0 O27 zf_S_java_lang_String_COMPACT_STRINGS hzc rng_ch2) hZ (wd33 hw) (wd4 hw) (by decide) (by decide)) (g := (mkF m 118 #[.val (.long q0), .second, .val (.int p1), .val (.int p2), .val (.int p3), .val (.int z1_0), .val (.int z3_0), .val (.int z5_0), .val (.int z7_0), .val (.long z9_0), .second, .val (.ref b11), .val (.ref b20), .unset, .unset, .unset, .unset] [(.int ch2)])) rfl (by rw [hml]; rfl) (argsL := [(.int ch2)]) (rest := []) (lenOf pd__C_Ljava_lang_String__1844 rfl) rfl (by show 2 * 0 + _ ≤ _; exact Nat.le_of_eq rfl) (hb hby at_118) (fun _ _ => ⟨rfl, rfl, (by decide : 3 + 2 ≤ _), (by decide : 8 + 5 ≤ _)⟩)
  dsimp only [Pt.U, Pt.locs, Pt.cells, Pt.slots] at X28 l28 y28 z28 st28 hQ28
  subst Lp28 kp28 np28
  obtain ⟨b28, rfl, N28q, K28q, f28_0⟩ := hQ28
  have N28 := Fr.app N23 N28q
  have sz29 : T23.heap.size ≤ T28.heap.size := K28q.1
  have O30 : Old Z n0 T28.heap := O27.keep K28q all0
  have lt31_b28 : T28.heap.size > b28 := f28_0.lt
  refine own_via (S' := T28.setTop (mkF m 121 #[.val (.long q0), .second, .val (.int p1), .val (.int p2), .val (.int p3), .val (.int z1_0), .val (.int z3_0), .val (.int z5_0), .val (.int z7_0), .val (.long z9_0), .second, .val (.ref b11), .val (.ref b20), .unset, .unset, .unset, .unset] [(.ref b28)])) st28 ?_
  refine own_via (S' := T28.setTop (mkF m 123 #[.val (.long q0), .second, .val (.int p1), .val (.int p2), .val (.int p3), .val (.int z1_0), .val (.int z3_0), .val (.int z5_0), .val (.int z7_0), .val (.long z9_0), .second, .val (.ref b11), .val (.ref b20), .val (.ref b28), .unset, .unset, .unset] [])) (fun t k => XS.astore X28.here hx rfl (hb hby at_121) rfl rfl (l' := #[.val (.long q0), .second, .val (.int p1), .val (.int p2), .val (.int p3), .val (.int z1_0), .val (.int z3_0), .val (.int z5_0), .val (.int z7_0), .val (.long z9_0), .second, .val (.ref b11), .val (.ref b20), .val (.ref b28), .unset, .unset, .unset]) rfl k) ?_
  refine own_via (S' := T28.setTop (mkF m 125 #[.val (.long q0), .second, .val (.int p1), .val (.int p2), .val (.int p3), .val (.int z1_0), .val (.int z3_0), .val (.int z5_0), .val (.int z7_0), .val (.long z9_0), .second, .val (.ref b11), .val (.ref b20), .val (.ref b28), .unset, .unset, .unset] [(.int z7_0)])) (fun t k => XS.iload X28.here hx rfl (hb hby at_123) rfl k) ?_
  by_cases hz32 : (p1 &&& (8 : Int32)) = (0 : Int32)
  · -- yes
    obtain rfl : z7_0 = (0 : Int32) := hz7_0.trans (if_pos hz32)
    refine own_via (S' := T28.setTop (mkF m 132 #[.val (.long q0), .second, .val (.int p1), .val (.int p2), .val (.int p3), .val (.int z1_0), .val (.int z3_0), .val (.int z5_0), .val (.int (0 : Int32)), .val (.long z9_0), .second, .val (.ref b11), .val (.ref b20), .val (.ref b28), .unset, .unset, .unset] [])) (fun t k => XS.ifYes X28.here hx rfl (pc0 := 125) (pc' := 132) rfl (hb hby at_125) rfl ((if0 _ _).trans (teq (by decide : (0 : Int32) = (0 : Int32))).1) (by decide) (by decide) k) ?_
    refine own_via (S' := T28.setTop (mkF m 134 #[.val (.long q0), .second, .val (.int p1), .val (.int p2), .val (.int p3), .val (.int z1_0), .val (.int z3_0), .val (.int z5_0), .val (.int (0 : Int32)), .val (.long z9_0), .second, .val (.ref b11), .val (.ref b20), .val (.ref b28), .unset, .unset, .unset] [(.int p3)])) (fun t k => XS.iload X28.here hx rfl (hb hby at_132) rfl k) ?_
    refine own_via (S' := T28.setTop (mkF m 136 #[.val (.long q0), .second, .val (.int p1), .val (.int p2), .val (.int p3), .val (.int z1_0), .val (.int z3_0), .val (.int z5_0), .val (.int (0 : Int32)), .val (.long z9_0), .second, .val (.ref b11), .val (.ref b20), .val (.ref b28), .unset, .unset, .unset] [(.int (8 : Int32)), (.int p3)])) (fun t k => XS.bipush X28.here hx rfl (hb hby at_134) k) ?_
    refine own_via (S' := T28.setTop (mkF m 137 #[.val (.long q0), .second, .val (.int p1), .val (.int p2), .val (.int p3), .val (.int z1_0), .val (.int z3_0), .val (.int z5_0), .val (.int (0 : Int32)), .val (.long z9_0), .second, .val (.ref b11), .val (.ref b20), .val (.ref b28), .unset, .unset, .unset] [(.int ((p3.toUInt32 >>> ((8 : Int32) &&& 31).toUInt32).toInt32))])) (fun t k => XS.iushr X28.here hx rfl (hb hby at_136) rfl k) ?_
    refine own_via (S' := T28.setTop (mkF m 140 #[.val (.long q0), .second, .val (.int p1), .val (.int p2), .val (.int p3), .val (.int z1_0), .val (.int z3_0), .val (.int z5_0), .val (.int (0 : Int32)), .val (.long z9_0), .second, .val (.ref b11), .val (.ref b20), .val (.ref b28), .unset, .unset, .unset] [(.int (255 : Int32)), (.int ((p3.toUInt32 >>> ((8 : Int32) &&& 31).toUInt32).toInt32))])) (fun t k => XS.sipush X28.here hx rfl (hb hby at_137) k) ?_
    refine own_via (S' := T28.setTop (mkF m 141 #[.val (.long q0), .second, .val (.int p1), .val (.int p2), .val (.int p3), .val (.int z1_0), .val (.int z3_0), .val (.int z5_0), .val (.int (0 : Int32)), .val (.long z9_0), .second, .val (.ref b11), .val (.ref b20), .val (.ref b28), .unset, .unset, .unset] [(.int (((p3.toUInt32 >>> ((8 : Int32) &&& 31).toUInt32).toInt32) &&& (255 : Int32)))])) (fun t k => XS.iand X28.here hx rfl (hb hby at_140) rfl k) ?_
    refine own_via (S' := T28.setTop (mkF m 142 #[.val (.long q0), .second, .val (.int p1), .val (.int p2), .val (.int p3), .val (.int z1_0), .val (.int z3_0), .val (.int z5_0), .val (.int (0 : Int32)), .val (.long z9_0), .second, .val (.ref b11), .val (.ref b20), .val (.ref b28), .unset, .unset, .unset] [(.int ((((p3.toUInt32 >>> ((8 : Int32) &&& 31).toUInt32).toInt32) &&& (255 : Int32)).toUInt32.toUInt16.toUInt32.toInt32))])) (fun t k => XS.i2c X28.here hx rfl (hb hby at_141) rfl k) ?_
    obtain ⟨ch3, hn_ch3⟩ : ∃ z : Int32, z = ((((p3.toUInt32 >>> ((8 : Int32) &&& 31).toUInt32).toInt32) &&& (255 : Int32)).toUInt32.toUInt16.toUInt32.toInt32) := ⟨_, rfl⟩
    rw [← hn_ch3]
    have rng_ch3 : ¬ ch3 < 0 ∧ ¬ (255 : Int32) < ch3 := by rw [hn_ch3]; exact own_and255 _
    obtain ⟨_, _, ⟨T34, Lp34, kp34, np34⟩, -, X34, ⟨Lc34, hQ34, l34, y34, z34⟩, st34⟩ := Jvm.LawKit.callS X28 hx (y := mt4) hown (mvT hZ (wd31 hw)) (mvT hZ (wd32 hw)) (mvT hZ (wd4 hw)) (mvT hZ (wd33 hw)) (by decide) (backOf (W := 0) (own_valueOf l Z a0 hw [] ch3 zc T28.heap n0 O30 zf_S_java_lang_String_COMPACT_STRINGS hzc rng_ch3) hZ (wd33 hw) (wd4 hw) (by decide) (by decide)) (g := (mkF m 142 #[.val (.long q0), .second, .val (.int p1), .val (.int p2), .val (.int p3), .val (.int z1_0), .val (.int z3_0), .val (.int z5_0), .val (.int (0 : Int32)), .val (.long z9_0), .second, .val (.ref b11), .val (.ref b20), .val (.ref b28), .unset, .unset, .unset] [(.int ch3)])) rfl (by rw [hml]; rfl) (argsL := [(.int ch3)]) (rest := []) (lenOf pd__C_Ljava_lang_String__1844 rfl) rfl (by show 2 * 0 + _ ≤ _; exact Nat.le_of_eq rfl) (hb hby at_142) (fun _ _ => ⟨rfl, rfl, (by decide : 5 + 2 ≤ _), (by decide : 13 + 5 ≤ _)⟩)
    dsimp only [Pt.U, Pt.locs, Pt.cells, Pt.slots] at X34 l34 y34 z34 st34 hQ34
    subst Lp34 kp34 np34
    obtain ⟨b34, rfl, N34q, K34q, f34_0⟩ := hQ34
    have N34 := Fr.app N28 N34q
    have sz35 : T28.heap.size ≤ T34.heap.size := K34q.1
    have O36 : Old Z n0 T34.heap := O30.keep K34q all0
    have lt37_b34 : T34.heap.size > b34 := f34_0.lt
    refine own_via (S' := T34.setTop (mkF m 145 #[.val (.long q0), .second, .val (.int p1), .val (.int p2), .val (.int p3), .val (.int z1_0), .val (.int z3_0), .val (.int z5_0), .val (.int (0 : Int32)), .val (.long z9_0), .second, .val (.ref b11), .val (.ref b20), .val (.ref b28), .unset, .unset, .unset] [(.ref b34)])) st34 ?_
    refine own_via (S' := T34.setTop (mkF m 147 #[.val (.long q0), .second, .val (.int p1), .val (.int p2), .val (.int p3), .val (.int z1_0), .val (.int z3_0), .val (.int z5_0), .val (.int (0 : Int32)), .val (.long z9_0), .second, .val (.ref b11), .val (.ref b20), .val (.ref b28), .val (.ref b34), .unset, .unset] [])) (fun t k => XS.astore X34.here hx rfl (hb hby at_145) rfl rfl (l' := #[.val (.long q0), .second, .val (.int p1), .val (.int p2), .val (.int p3), .val (.int z1_0), .val (.int z3_0), .val (.int z5_0), .val (.int (0 : Int32)), .val (.long z9_0), .second, .val (.ref b11), .val (.ref b20), .val (.ref b28), .val (.ref b34), .unset, .unset]) rfl k) ?_
    obtain ⟨T38, h38, X38, e38, E38, A38, D38, -, st38⟩ := newO X34 hx hZ hown (wd45 hw) (wd46 hw) (wd47 hw) rfl (g := (mkF m 147 #[.val (.long q0), .second, .val (.int p1), .val (.int p2), .val (.int p3), .val (.int z1_0), .val (.int z3_0), .val (.int z5_0), .val (.int (0 : Int32)), .val (.long z9_0), .second, .val (.ref b11), .val (.ref b20), .val (.ref b28), .val (.ref b34), .unset, .unset] [])) rfl (hb hby at_147) (by decide) (by decide)
    obtain ⟨b38, g38⟩ : ∃ z, z = T34.heap.size := ⟨_, rfl⟩
    rw [← g38] at A38 D38 st38
    have lt_b38 : h38.size > b38 := A38.lt
    have sz39 : T34.heap.size ≤ h38.size := E38.1
    have O40 : Old Z n0 h38 := O36.ext E38
    have F38_method : Fld Z h38 b38 "com/example/object_access_rules/objectaccessrules/service/HttpRequest" "method" "Ljava/lang/String;" .null := D38 (Or.inr (wd58 hw)) (ty := (.object "java/lang/String")) (by decide)
    have F38_path : Fld Z h38 b38 "com/example/object_access_rules/objectaccessrules/service/HttpRequest" "path" "Ljava/lang/String;" .null := D38 (Or.inr (wd60 hw)) (ty := (.object "java/lang/String")) (by decide)
    have F38_host : Fld Z h38 b38 "com/example/object_access_rules/objectaccessrules/service/HttpRequest" "host" "Ljava/lang/String;" .null := D38 (Or.inr (wd62 hw)) (ty := (.object "java/lang/String")) (by decide)
    have F38_contentLength : Fld Z h38 b38 "com/example/object_access_rules/objectaccessrules/service/HttpRequest" "contentLength" "J" (.long (0 : Int64)) := D38 (Or.inr (wd64 hw)) (ty := .long) (by decide)
    have F38_chunked : Fld Z h38 b38 "com/example/object_access_rules/objectaccessrules/service/HttpRequest" "chunked" "Z" (.int (0 : Int32)) := D38 (Or.inr (wd66 hw)) (ty := .boolean) (by decide)
    have F38_keepAlive : Fld Z h38 b38 "com/example/object_access_rules/objectaccessrules/service/HttpRequest" "keepAlive" "Z" (.int (0 : Int32)) := D38 (Or.inr (wd68 hw)) (ty := .boolean) (by decide)
    have F38_expectsContinue : Fld Z h38 b38 "com/example/object_access_rules/objectaccessrules/service/HttpRequest" "expectsContinue" "Z" (.int (0 : Int32)) := D38 (Or.inr (wd70 hw)) (ty := .boolean) (by decide)
    refine own_via (S' := T38.setTop (mkF m 150 #[.val (.long q0), .second, .val (.int p1), .val (.int p2), .val (.int p3), .val (.int z1_0), .val (.int z3_0), .val (.int z5_0), .val (.int (0 : Int32)), .val (.long z9_0), .second, .val (.ref b11), .val (.ref b20), .val (.ref b28), .val (.ref b34), .unset, .unset] [(.ref b38)])) st38 ?_
    refine own_via (S' := T38.setTop (mkF m 151 #[.val (.long q0), .second, .val (.int p1), .val (.int p2), .val (.int p3), .val (.int z1_0), .val (.int z3_0), .val (.int z5_0), .val (.int (0 : Int32)), .val (.long z9_0), .second, .val (.ref b11), .val (.ref b20), .val (.ref b28), .val (.ref b34), .unset, .unset] [(.ref b38), (.ref b38)])) (fun t k => XS.dup X38.here hx rfl (hb hby at_150) rfl rfl k) ?_
    refine own_via (S' := T38.setTop (mkF m 153 #[.val (.long q0), .second, .val (.int p1), .val (.int p2), .val (.int p3), .val (.int z1_0), .val (.int z3_0), .val (.int z5_0), .val (.int (0 : Int32)), .val (.long z9_0), .second, .val (.ref b11), .val (.ref b20), .val (.ref b28), .val (.ref b34), .unset, .unset] [(.ref b20), (.ref b38), (.ref b38)])) (fun t k => XS.aload X38.here hx rfl (hb hby at_151) rfl rfl k) ?_
    refine own_via (S' := T38.setTop (mkF m 155 #[.val (.long q0), .second, .val (.int p1), .val (.int p2), .val (.int p3), .val (.int z1_0), .val (.int z3_0), .val (.int z5_0), .val (.int (0 : Int32)), .val (.long z9_0), .second, .val (.ref b11), .val (.ref b20), .val (.ref b28), .val (.ref b34), .unset, .unset] [(.ref b28), (.ref b20), (.ref b38), (.ref b38)])) (fun t k => XS.aload X38.here hx rfl (hb hby at_153) rfl rfl k) ?_
    refine own_via (S' := T38.setTop (mkF m 157 #[.val (.long q0), .second, .val (.int p1), .val (.int p2), .val (.int p3), .val (.int z1_0), .val (.int z3_0), .val (.int z5_0), .val (.int (0 : Int32)), .val (.long z9_0), .second, .val (.ref b11), .val (.ref b20), .val (.ref b28), .val (.ref b34), .unset, .unset] [(.ref b34), (.ref b28), (.ref b20), (.ref b38), (.ref b38)])) (fun t k => XS.aload X38.here hx rfl (hb hby at_155) rfl rfl k) ?_
    refine own_via (S' := T38.setTop (mkF m 159 #[.val (.long q0), .second, .val (.int p1), .val (.int p2), .val (.int p3), .val (.int z1_0), .val (.int z3_0), .val (.int z5_0), .val (.int (0 : Int32)), .val (.long z9_0), .second, .val (.ref b11), .val (.ref b20), .val (.ref b28), .val (.ref b34), .unset, .unset] [(.long z9_0), (.ref b34), (.ref b28), (.ref b20), (.ref b38), (.ref b38)])) (fun t k => XS.lload X38.here hx rfl (hb hby at_157) rfl k) ?_
    refine own_via (S' := T38.setTop (mkF m 161 #[.val (.long q0), .second, .val (.int p1), .val (.int p2), .val (.int p3), .val (.int z1_0), .val (.int z3_0), .val (.int z5_0), .val (.int (0 : Int32)), .val (.long z9_0), .second, .val (.ref b11), .val (.ref b20), .val (.ref b28), .val (.ref b34), .unset, .unset] [(.int z1_0), (.long z9_0), (.ref b34), (.ref b28), (.ref b20), (.ref b38), (.ref b38)])) (fun t k => XS.iload X38.here hx rfl (hb hby at_159) rfl k) ?_
    refine own_via (S' := T38.setTop (mkF m 163 #[.val (.long q0), .second, .val (.int p1), .val (.int p2), .val (.int p3), .val (.int z1_0), .val (.int z3_0), .val (.int z5_0), .val (.int (0 : Int32)), .val (.long z9_0), .second, .val (.ref b11), .val (.ref b20), .val (.ref b28), .val (.ref b34), .unset, .unset] [(.int z3_0), (.int z1_0), (.long z9_0), (.ref b34), (.ref b28), (.ref b20), (.ref b38), (.ref b38)])) (fun t k => XS.iload X38.here hx rfl (hb hby at_161) rfl k) ?_
    refine own_via (S' := T38.setTop (mkF m 165 #[.val (.long q0), .second, .val (.int p1), .val (.int p2), .val (.int p3), .val (.int z1_0), .val (.int z3_0), .val (.int z5_0), .val (.int (0 : Int32)), .val (.long z9_0), .second, .val (.ref b11), .val (.ref b20), .val (.ref b28), .val (.ref b34), .unset, .unset] [(.int z5_0), (.int z3_0), (.int z1_0), (.long z9_0), (.ref b34), (.ref b28), (.ref b20), (.ref b38), (.ref b38)])) (fun t k => XS.iload X38.here hx rfl (hb hby at_163) rfl k) ?_
    obtain ⟨_, _, ⟨T41, Lp41, kp41, np41⟩, -, X41, ⟨Lc41, hQ41, l41, y41, z41⟩, st41⟩ := X38.specialBack hx (y := mt5) rfl hown (mvT hZ (wd48 hw)) (mvT hZ (wd49 hw)) (mvT hZ (wd50 hw)) (by decide) (backOf (W := 1) (own_hrR l Z a0 hw [] b38 b20 b28 b34 z9_0 z1_0 z3_0 z5_0 h38 n0 O40 A38 F38_method F38_path F38_host F38_contentLength F38_chunked F38_keepAlive F38_expectsContinue (by omega)) hZ (wd50 hw) (wd47 hw) (by decide) (by decide)) (g := (mkF m 165 #[.val (.long q0), .second, .val (.int p1), .val (.int p2), .val (.int p3), .val (.int z1_0), .val (.int z3_0), .val (.int z5_0), .val (.int (0 : Int32)), .val (.long z9_0), .second, .val (.ref b11), .val (.ref b20), .val (.ref b28), .val (.ref b34), .unset, .unset] [(.int z5_0), (.int z3_0), (.int z1_0), (.long z9_0), (.ref b34), (.ref b28), (.ref b20), (.ref b38), (.ref b38)])) rfl (by rw [hml]; rfl) (Steps.refl _) (a := b38) (argsL := [(.ref b20), (.ref b28), (.ref b34), (.long z9_0), (.int z1_0), (.int z3_0), (.int z5_0)]) (rest := [(.ref b38)]) (lenOf pd__Ljava_lang_String_Ljava_lang_String_Ljava_lang_String_JZZZ_V_5599 rfl) rfl (by show 2 * 0 + _ ≤ _; exact Nat.le_of_eq rfl) (hb hby at_165) (fun _ _ => ⟨rfl, e38, (by decide : 8 + 0 ≤ _), (by decide : 25 + 0 ≤ _)⟩)
    dsimp only [Pt.U, Pt.locs, Pt.cells, Pt.slots] at X41 l41 y41 z41 st41 hQ41
    subst Lp41 kp41 np41
    obtain ⟨rfl, N41q, K41q, f41_0, f41_1⟩ := hQ41
    have N41 := Fr.app N34 N41q
    have sz42 : h38.size ≤ T41.heap.size := K41q.1
    have O43 : Old Z n0 T41.heap := O40.keep K41q (allS (by omega : n0 ≤ b38) all0)
    refine own_tr (S' := T41.setTop (mkF m 168 #[.val (.long q0), .second, .val (.int p1), .val (.int p2), .val (.int p3), .val (.int z1_0), .val (.int z3_0), .val (.int z5_0), .val (.int (0 : Int32)), .val (.long z9_0), .second, .val (.ref b11), .val (.ref b20), .val (.ref b28), .val (.ref b34), .unset, .unset] [(.ref b38)])) st41 ?_
    have rw44 : (nar .boolean z1_0) = z1_0 := by rw [hz1_0]; split <;> rfl
    have f41_1_r44 : Fld Z T41.heap b38 "com/example/object_access_rules/objectaccessrules/service/HttpRequest" "chunked" "Z" (.int z1_0) := rw44 ▸ f41_1
    refine own_via (S' := T41.setTop (mkF m 170 #[.val (.long q0), .second, .val (.int p1), .val (.int p2), .val (.int p3), .val (.int z1_0), .val (.int z3_0), .val (.int z5_0), .val (.int (0 : Int32)), .val (.long z9_0), .second, .val (.ref b11), .val (.ref b20), .val (.ref b28), .val (.ref b34), .val (.ref b38), .unset] [])) (fun t k => XS.astore X41.here hx rfl (hb hby at_168) rfl rfl (l' := #[.val (.long q0), .second, .val (.int p1), .val (.int p2), .val (.int p3), .val (.int z1_0), .val (.int z3_0), .val (.int z5_0), .val (.int (0 : Int32)), .val (.long z9_0), .second, .val (.ref b11), .val (.ref b20), .val (.ref b28), .val (.ref b34), .val (.ref b38), .unset]) rfl k) ?_
    refine own_via (S' := T41.setTop (mkF m 172 #[.val (.long q0), .second, .val (.int p1), .val (.int p2), .val (.int p3), .val (.int z1_0), .val (.int z3_0), .val (.int z5_0), .val (.int (0 : Int32)), .val (.long z9_0), .second, .val (.ref b11), .val (.ref b20), .val (.ref b28), .val (.ref b34), .val (.ref b38), .unset] [(.int z1_0)])) (fun t k => XS.iload X41.here hx rfl (hb hby at_170) rfl k) ?_
    by_cases hz45 : (p1 &&& (1 : Int32)) = (0 : Int32)
    · -- yes
      obtain rfl : z1_0 = (0 : Int32) := hz1_0.trans (if_pos hz45)
      refine own_via (S' := T41.setTop (mkF m 181 #[.val (.long q0), .second, .val (.int p1), .val (.int p2), .val (.int p3), .val (.int (0 : Int32)), .val (.int z3_0), .val (.int z5_0), .val (.int (0 : Int32)), .val (.long z9_0), .second, .val (.ref b11), .val (.ref b20), .val (.ref b28), .val (.ref b34), .val (.ref b38), .unset] [])) (fun t k => XS.ifYes X41.here hx rfl (pc0 := 172) (pc' := 181) rfl (hb hby at_172) rfl ((if0 _ _).trans (teq (by decide : (0 : Int32) = (0 : Int32))).1) (by decide) (by decide) k) ?_
      refine own_via (S' := T41.setTop (mkF m 183 #[.val (.long q0), .second, .val (.int p1), .val (.int p2), .val (.int p3), .val (.int (0 : Int32)), .val (.int z3_0), .val (.int z5_0), .val (.int (0 : Int32)), .val (.long z9_0), .second, .val (.ref b11), .val (.ref b20), .val (.ref b28), .val (.ref b34), .val (.ref b38), .unset] [(.long z9_0)])) (fun t k => XS.lload X41.here hx rfl (hb hby at_181) rfl k) ?_
      refine own_via (S' := T41.setTop (mkF m 186 #[.val (.long q0), .second, .val (.int p1), .val (.int p2), .val (.int p3), .val (.int (0 : Int32)), .val (.int z3_0), .val (.int z5_0), .val (.int (0 : Int32)), .val (.long z9_0), .second, .val (.ref b11), .val (.ref b20), .val (.ref b28), .val (.ref b34), .val (.ref b38), .unset] [(.long (-1 : Int64)), (.long z9_0)])) (fun t k => X41.ldc2Long hx hown (mvT hZ (wd0 hw)) (g := (mkF m 183 #[.val (.long q0), .second, .val (.int p1), .val (.int p2), .val (.int p3), .val (.int (0 : Int32)), .val (.int z3_0), .val (.int z5_0), .val (.int (0 : Int32)), .val (.long z9_0), .second, .val (.ref b11), .val (.ref b20), .val (.ref b28), .val (.ref b34), .val (.ref b38), .unset] [(.long z9_0)])) rfl (hb hby at_183) _ k) ?_
      refine own_via (S' := T41.setTop (mkF m 187 #[.val (.long q0), .second, .val (.int p1), .val (.int p2), .val (.int p3), .val (.int (0 : Int32)), .val (.int z3_0), .val (.int z5_0), .val (.int (0 : Int32)), .val (.long z9_0), .second, .val (.ref b11), .val (.ref b20), .val (.ref b28), .val (.ref b34), .val (.ref b38), .unset] [(.int (lcmpW z9_0 (-1 : Int64)))])) (fun t k => XS.lcmp X41.here hx rfl (hb hby at_186) rfl k) ?_
      by_cases hc187_47 : z9_0 = (-1 : Int64)
      · -- yes
        refine own_via (S' := T41.setTop (mkF m 190 #[.val (.long q0), .second, .val (.int p1), .val (.int p2), .val (.int p3), .val (.int (0 : Int32)), .val (.int z3_0), .val (.int z5_0), .val (.int (0 : Int32)), .val (.long z9_0), .second, .val (.ref b11), .val (.ref b20), .val (.ref b28), .val (.ref b34), .val (.ref b38), .unset] [])) (fun t k => XS.ifNo X41.here hx rfl (hb hby at_187) rfl ((if0 _ _).trans (teq ((lw_eq _ _).mpr hc187_47)).2) k) ?_
        refine own_via (S' := T41.setTop (mkF m 191 #[.val (.long q0), .second, .val (.int p1), .val (.int p2), .val (.int p3), .val (.int (0 : Int32)), .val (.int z3_0), .val (.int z5_0), .val (.int (0 : Int32)), .val (.long z9_0), .second, .val (.ref b11), .val (.ref b20), .val (.ref b28), .val (.ref b34), .val (.ref b38), .unset] [(.int (0 : Int32))])) (fun t k => XS.iconst X41.here hx rfl (hb hby at_190) k) ?_
        refine own_via (S' := T41.setTop (mkF m 193 #[.val (.long q0), .second, .val (.int p1), .val (.int p2), .val (.int p3), .val (.int (0 : Int32)), .val (.int z3_0), .val (.int z5_0), .val (.int (0 : Int32)), .val (.long z9_0), .second, .val (.ref b11), .val (.ref b20), .val (.ref b28), .val (.ref b34), .val (.ref b38), .val (.int (0 : Int32))] [])) (fun t k => XS.istore X41.here hx rfl (hb hby at_191) rfl (l' := #[.val (.long q0), .second, .val (.int p1), .val (.int p2), .val (.int p3), .val (.int (0 : Int32)), .val (.int z3_0), .val (.int z5_0), .val (.int (0 : Int32)), .val (.long z9_0), .second, .val (.ref b11), .val (.ref b20), .val (.ref b28), .val (.ref b34), .val (.ref b38), .val (.int (0 : Int32))]) rfl k) ?_
        refine own_via (S' := T41.setTop (mkF m 212 #[.val (.long q0), .second, .val (.int p1), .val (.int p2), .val (.int p3), .val (.int (0 : Int32)), .val (.int z3_0), .val (.int z5_0), .val (.int (0 : Int32)), .val (.long z9_0), .second, .val (.ref b11), .val (.ref b20), .val (.ref b28), .val (.ref b34), .val (.ref b38), .val (.int (0 : Int32))] [])) (fun t k => XS.goto X41.here hx rfl (pc0 := 193) (pc' := 212) rfl (hb hby at_193) (by decide) (by decide) k) ?_
        refine own_via (S' := T41.setTop (mkF m 214 #[.val (.long q0), .second, .val (.int p1), .val (.int p2), .val (.int p3), .val (.int (0 : Int32)), .val (.int z3_0), .val (.int z5_0), .val (.int (0 : Int32)), .val (.long z9_0), .second, .val (.ref b11), .val (.ref b20), .val (.ref b28), .val (.ref b34), .val (.ref b38), .val (.int (0 : Int32))] [(.ref b38)])) (fun t k => XS.aload X41.here hx rfl (hb hby at_212) rfl rfl k) ?_
        have cx49 : Exa Z T41.heap b38 "com/example/object_access_rules/objectaccessrules/service/HttpRequest" := (A38.keep K41q)
        obtain ⟨cq48, kq48, q48a, q48b, q48c⟩ := isOf hZ rfl cx49
        obtain ⟨_, _, ⟨T48, Lp48, kp48, np48⟩, -, X48, ⟨Lc48, hQ48, l48, y48, z48⟩, st48⟩ := X41.virtualBack hx (y := mt6) (z := mt6) hown (mvT hZ (wd71 hw)) (mvT hZ (wd72 hw)) (notFace_of_selects (args := #[]) (mvT hZ (wd74 hw))) (mvT hZ (wd74 hw)) (mvT hZ (wd73 hw)) (by decide) (backOf (W := 0) (own_hasBody l Z a0 hw [] b38 z9_0 (0 : Int32) T41.heap n0 O43 f41_0 f41_1_r44) hZ (wd75 hw) (wd47 hw) (by decide) (by decide)) q48a q48c (g := (mkF m 214 #[.val (.long q0), .second, .val (.int p1), .val (.int p2), .val (.int p3), .val (.int (0 : Int32)), .val (.int z3_0), .val (.int z5_0), .val (.int (0 : Int32)), .val (.long z9_0), .second, .val (.ref b11), .val (.ref b20), .val (.ref b28), .val (.ref b34), .val (.ref b38), .val (.int (0 : Int32))] [(.ref b38)])) rfl (by rw [hml]; rfl) (Steps.refl _) (argsL := []) (rest := []) (lenOf pd___Z_171 rfl) rfl (by show 2 * 0 + _ ≤ _; exact Nat.le_of_eq rfl) (hb hby at_214) (fun _ _ => ⟨rfl, rfl, (by decide : 8 + 0 ≤ _), (by decide : 25 + 0 ≤ _)⟩)
        dsimp only [Pt.U, Pt.locs, Pt.cells, Pt.slots] at X48 l48 y48 z48 st48 hQ48
        subst Lp48 kp48 np48
        obtain ⟨z48, rfl, rfl, e48, hz48_0⟩ := hQ48
        try rw [List.append_nil] at X48
        refine own_tr (S' := T48.setTop (mkF m 217 #[.val (.long q0), .second, .val (.int p1), .val (.int p2), .val (.int p3), .val (.int (0 : Int32)), .val (.int z3_0), .val (.int z5_0), .val (.int (0 : Int32)), .val (.long z9_0), .second, .val (.ref b11), .val (.ref b20), .val (.ref b28), .val (.ref b34), .val (.ref b38), .val (.int (0 : Int32))] [(.int z48)])) st48 ?_
        refine own_via (S' := T48.setTop (mkF m 219 #[.val (.long q0), .second, .val (.int p1), .val (.int p2), .val (.int p3), .val (.int (0 : Int32)), .val (.int z3_0), .val (.int z5_0), .val (.int (0 : Int32)), .val (.long z9_0), .second, .val (.ref b11), .val (.ref b20), .val (.ref b28), .val (.ref b34), .val (.ref b38), .val (.int (0 : Int32))] [(.int (0 : Int32)), (.int z48)])) (fun t k => XS.iload X48.here hx rfl (hb hby at_217) rfl k) ?_
        by_cases hz50 : (0 : Int64) < z9_0
        · -- yes
          rw [hc187_47] at hz50; exact absurd hz50 (by decide)
        · -- no
          obtain rfl : z48 = (0 : Int32) := hz48_0.trans ((if_pos rfl).trans (if_neg hz50))
          refine own_via (S' := T48.setTop (mkF m 222 #[.val (.long q0), .second, .val (.int p1), .val (.int p2), .val (.int p3), .val (.int (0 : Int32)), .val (.int z3_0), .val (.int z5_0), .val (.int (0 : Int32)), .val (.long z9_0), .second, .val (.ref b11), .val (.ref b20), .val (.ref b28), .val (.ref b34), .val (.ref b38), .val (.int (0 : Int32))] [])) (fun t k => XS.icmpNo X48.here hx rfl (hb hby at_219) rfl (teq (by decide : (0 : Int32) = (0 : Int32))).2 k) ?_
          refine own_via (S' := T48.setTop (mkF m 223 #[.val (.long q0), .second, .val (.int p1), .val (.int p2), .val (.int p3), .val (.int (0 : Int32)), .val (.int z3_0), .val (.int z5_0), .val (.int (0 : Int32)), .val (.long z9_0), .second, .val (.ref b11), .val (.ref b20), .val (.ref b28), .val (.ref b34), .val (.ref b38), .val (.int (0 : Int32))] [(.int (1 : Int32))])) (fun t k => XS.iconst X48.here hx rfl (hb hby at_222) k) ?_
          refine own_via (S' := T48.setTop (mkF m 227 #[.val (.long q0), .second, .val (.int p1), .val (.int p2), .val (.int p3), .val (.int (0 : Int32)), .val (.int z3_0), .val (.int z5_0), .val (.int (0 : Int32)), .val (.long z9_0), .second, .val (.ref b11), .val (.ref b20), .val (.ref b28), .val (.ref b34), .val (.ref b38), .val (.int (0 : Int32))] [(.int (1 : Int32))])) (fun t k => XS.goto X48.here hx rfl (pc0 := 223) (pc' := 227) rfl (hb hby at_223) (by decide) (by decide) k) ?_
          refine own_ret (Q := Q_own_law Z q0 p1 p2 p3 zc h0 n0) (C := room_1.cells) (N := room_1.slots) X48 (v := some (.int (1 : Int32))) (fun h => by rw [Bd.returns] at h; cases h) Bd.notSynchronized ?_ (by decide) (by decide) (fun fs hr => retN X48 hx (t := .boolean) Bd.returns (by simp) (hb hby at_227) hr)
          show Q_own_law Z q0 p1 p2 p3 zc h0 n0 _ T48.heap _
          rw [e48]
          exact ⟨rfl, N41⟩
      · -- no
        refine own_via (S' := T41.setTop (mkF m 196 #[.val (.long q0), .second, .val (.int p1), .val (.int p2), .val (.int p3), .val (.int (0 : Int32)), .val (.int z3_0), .val (.int z5_0), .val (.int (0 : Int32)), .val (.long z9_0), .second, .val (.ref b11), .val (.ref b20), .val (.ref b28), .val (.ref b34), .val (.ref b38), .unset] [])) (fun t k => XS.ifYes X41.here hx rfl (pc0 := 187) (pc' := 196) rfl (hb hby at_187) rfl ((if0 _ _).trans (feq (fun q => hc187_47 ((lw_eq _ _).mp q))).2) (by decide) (by decide) k) ?_
        refine own_via (S' := T41.setTop (mkF m 198 #[.val (.long q0), .second, .val (.int p1), .val (.int p2), .val (.int p3), .val (.int (0 : Int32)), .val (.int z3_0), .val (.int z5_0), .val (.int (0 : Int32)), .val (.long z9_0), .second, .val (.ref b11), .val (.ref b20), .val (.ref b28), .val (.ref b34), .val (.ref b38), .unset] [(.long z9_0)])) (fun t k => XS.lload X41.here hx rfl (hb hby at_196) rfl k) ?_
        refine own_via (S' := T41.setTop (mkF m 199 #[.val (.long q0), .second, .val (.int p1), .val (.int p2), .val (.int p3), .val (.int (0 : Int32)), .val (.int z3_0), .val (.int z5_0), .val (.int (0 : Int32)), .val (.long z9_0), .second, .val (.ref b11), .val (.ref b20), .val (.ref b28), .val (.ref b34), .val (.ref b38), .unset] [(.long (0 : Int64)), (.long z9_0)])) (fun t k => XS.lconst X41.here hx rfl (hb hby at_198) k) ?_
        refine own_via (S' := T41.setTop (mkF m 200 #[.val (.long q0), .second, .val (.int p1), .val (.int p2), .val (.int p3), .val (.int (0 : Int32)), .val (.int z3_0), .val (.int z5_0), .val (.int (0 : Int32)), .val (.long z9_0), .second, .val (.ref b11), .val (.ref b20), .val (.ref b28), .val (.ref b34), .val (.ref b38), .unset] [(.int (lcmpW z9_0 (0 : Int64)))])) (fun t k => XS.lcmp X41.here hx rfl (hb hby at_199) rfl k) ?_
        by_cases hc200_52 : z9_0 = (0 : Int64)
        · -- yes
          refine own_via (S' := T41.setTop (mkF m 203 #[.val (.long q0), .second, .val (.int p1), .val (.int p2), .val (.int p3), .val (.int (0 : Int32)), .val (.int z3_0), .val (.int z5_0), .val (.int (0 : Int32)), .val (.long z9_0), .second, .val (.ref b11), .val (.ref b20), .val (.ref b28), .val (.ref b34), .val (.ref b38), .unset] [])) (fun t k => XS.ifNo X41.here hx rfl (hb hby at_200) rfl ((if0 _ _).trans (teq ((lw_eq _ _).mpr hc200_52)).2) k) ?_
          refine own_via (S' := T41.setTop (mkF m 204 #[.val (.long q0), .second, .val (.int p1), .val (.int p2), .val (.int p3), .val (.int (0 : Int32)), .val (.int z3_0), .val (.int z5_0), .val (.int (0 : Int32)), .val (.long z9_0), .second, .val (.ref b11), .val (.ref b20), .val (.ref b28), .val (.ref b34), .val (.ref b38), .unset] [(.int (0 : Int32))])) (fun t k => XS.iconst X41.here hx rfl (hb hby at_203) k) ?_
          refine own_via (S' := T41.setTop (mkF m 206 #[.val (.long q0), .second, .val (.int p1), .val (.int p2), .val (.int p3), .val (.int (0 : Int32)), .val (.int z3_0), .val (.int z5_0), .val (.int (0 : Int32)), .val (.long z9_0), .second, .val (.ref b11), .val (.ref b20), .val (.ref b28), .val (.ref b34), .val (.ref b38), .val (.int (0 : Int32))] [])) (fun t k => XS.istore X41.here hx rfl (hb hby at_204) rfl (l' := #[.val (.long q0), .second, .val (.int p1), .val (.int p2), .val (.int p3), .val (.int (0 : Int32)), .val (.int z3_0), .val (.int z5_0), .val (.int (0 : Int32)), .val (.long z9_0), .second, .val (.ref b11), .val (.ref b20), .val (.ref b28), .val (.ref b34), .val (.ref b38), .val (.int (0 : Int32))]) rfl k) ?_
          refine own_via (S' := T41.setTop (mkF m 212 #[.val (.long q0), .second, .val (.int p1), .val (.int p2), .val (.int p3), .val (.int (0 : Int32)), .val (.int z3_0), .val (.int z5_0), .val (.int (0 : Int32)), .val (.long z9_0), .second, .val (.ref b11), .val (.ref b20), .val (.ref b28), .val (.ref b34), .val (.ref b38), .val (.int (0 : Int32))] [])) (fun t k => XS.goto X41.here hx rfl (pc0 := 206) (pc' := 212) rfl (hb hby at_206) (by decide) (by decide) k) ?_
          refine own_via (S' := T41.setTop (mkF m 214 #[.val (.long q0), .second, .val (.int p1), .val (.int p2), .val (.int p3), .val (.int (0 : Int32)), .val (.int z3_0), .val (.int z5_0), .val (.int (0 : Int32)), .val (.long z9_0), .second, .val (.ref b11), .val (.ref b20), .val (.ref b28), .val (.ref b34), .val (.ref b38), .val (.int (0 : Int32))] [(.ref b38)])) (fun t k => XS.aload X41.here hx rfl (hb hby at_212) rfl rfl k) ?_
          have cx54 : Exa Z T41.heap b38 "com/example/object_access_rules/objectaccessrules/service/HttpRequest" := (A38.keep K41q)
          obtain ⟨cq53, kq53, q53a, q53b, q53c⟩ := isOf hZ rfl cx54
          obtain ⟨_, _, ⟨T53, Lp53, kp53, np53⟩, -, X53, ⟨Lc53, hQ53, l53, y53, z53⟩, st53⟩ := X41.virtualBack hx (y := mt6) (z := mt6) hown (mvT hZ (wd71 hw)) (mvT hZ (wd72 hw)) (notFace_of_selects (args := #[]) (mvT hZ (wd74 hw))) (mvT hZ (wd74 hw)) (mvT hZ (wd73 hw)) (by decide) (backOf (W := 0) (own_hasBody l Z a0 hw [] b38 z9_0 (0 : Int32) T41.heap n0 O43 f41_0 f41_1_r44) hZ (wd75 hw) (wd47 hw) (by decide) (by decide)) q53a q53c (g := (mkF m 214 #[.val (.long q0), .second, .val (.int p1), .val (.int p2), .val (.int p3), .val (.int (0 : Int32)), .val (.int z3_0), .val (.int z5_0), .val (.int (0 : Int32)), .val (.long z9_0), .second, .val (.ref b11), .val (.ref b20), .val (.ref b28), .val (.ref b34), .val (.ref b38), .val (.int (0 : Int32))] [(.ref b38)])) rfl (by rw [hml]; rfl) (Steps.refl _) (argsL := []) (rest := []) (lenOf pd___Z_171 rfl) rfl (by show 2 * 0 + _ ≤ _; exact Nat.le_of_eq rfl) (hb hby at_214) (fun _ _ => ⟨rfl, rfl, (by decide : 8 + 0 ≤ _), (by decide : 25 + 0 ≤ _)⟩)
          dsimp only [Pt.U, Pt.locs, Pt.cells, Pt.slots] at X53 l53 y53 z53 st53 hQ53
          subst Lp53 kp53 np53
          obtain ⟨z53, rfl, rfl, e53, hz53_0⟩ := hQ53
          try rw [List.append_nil] at X53
          refine own_tr (S' := T53.setTop (mkF m 217 #[.val (.long q0), .second, .val (.int p1), .val (.int p2), .val (.int p3), .val (.int (0 : Int32)), .val (.int z3_0), .val (.int z5_0), .val (.int (0 : Int32)), .val (.long z9_0), .second, .val (.ref b11), .val (.ref b20), .val (.ref b28), .val (.ref b34), .val (.ref b38), .val (.int (0 : Int32))] [(.int z53)])) st53 ?_
          refine own_via (S' := T53.setTop (mkF m 219 #[.val (.long q0), .second, .val (.int p1), .val (.int p2), .val (.int p3), .val (.int (0 : Int32)), .val (.int z3_0), .val (.int z5_0), .val (.int (0 : Int32)), .val (.long z9_0), .second, .val (.ref b11), .val (.ref b20), .val (.ref b28), .val (.ref b34), .val (.ref b38), .val (.int (0 : Int32))] [(.int (0 : Int32)), (.int z53)])) (fun t k => XS.iload X53.here hx rfl (hb hby at_217) rfl k) ?_
          by_cases hz55 : (0 : Int64) < z9_0
          · -- yes
            rw [hc200_52] at hz55; exact absurd hz55 (by decide)
          · -- no
            obtain rfl : z53 = (0 : Int32) := hz53_0.trans ((if_pos rfl).trans (if_neg hz55))
            refine own_via (S' := T53.setTop (mkF m 222 #[.val (.long q0), .second, .val (.int p1), .val (.int p2), .val (.int p3), .val (.int (0 : Int32)), .val (.int z3_0), .val (.int z5_0), .val (.int (0 : Int32)), .val (.long z9_0), .second, .val (.ref b11), .val (.ref b20), .val (.ref b28), .val (.ref b34), .val (.ref b38), .val (.int (0 : Int32))] [])) (fun t k => XS.icmpNo X53.here hx rfl (hb hby at_219) rfl (teq (by decide : (0 : Int32) = (0 : Int32))).2 k) ?_
            refine own_via (S' := T53.setTop (mkF m 223 #[.val (.long q0), .second, .val (.int p1), .val (.int p2), .val (.int p3), .val (.int (0 : Int32)), .val (.int z3_0), .val (.int z5_0), .val (.int (0 : Int32)), .val (.long z9_0), .second, .val (.ref b11), .val (.ref b20), .val (.ref b28), .val (.ref b34), .val (.ref b38), .val (.int (0 : Int32))] [(.int (1 : Int32))])) (fun t k => XS.iconst X53.here hx rfl (hb hby at_222) k) ?_
            refine own_via (S' := T53.setTop (mkF m 227 #[.val (.long q0), .second, .val (.int p1), .val (.int p2), .val (.int p3), .val (.int (0 : Int32)), .val (.int z3_0), .val (.int z5_0), .val (.int (0 : Int32)), .val (.long z9_0), .second, .val (.ref b11), .val (.ref b20), .val (.ref b28), .val (.ref b34), .val (.ref b38), .val (.int (0 : Int32))] [(.int (1 : Int32))])) (fun t k => XS.goto X53.here hx rfl (pc0 := 223) (pc' := 227) rfl (hb hby at_223) (by decide) (by decide) k) ?_
            refine own_ret (Q := Q_own_law Z q0 p1 p2 p3 zc h0 n0) (C := room_1.cells) (N := room_1.slots) X53 (v := some (.int (1 : Int32))) (fun h => by rw [Bd.returns] at h; cases h) Bd.notSynchronized ?_ (by decide) (by decide) (fun fs hr => retN X53 hx (t := .boolean) Bd.returns (by simp) (hb hby at_227) hr)
            show Q_own_law Z q0 p1 p2 p3 zc h0 n0 _ T53.heap _
            rw [e53]
            exact ⟨rfl, N41⟩
        · -- no
          refine own_via (S' := T41.setTop (mkF m 209 #[.val (.long q0), .second, .val (.int p1), .val (.int p2), .val (.int p3), .val (.int (0 : Int32)), .val (.int z3_0), .val (.int z5_0), .val (.int (0 : Int32)), .val (.long z9_0), .second, .val (.ref b11), .val (.ref b20), .val (.ref b28), .val (.ref b34), .val (.ref b38), .unset] [])) (fun t k => XS.ifYes X41.here hx rfl (pc0 := 200) (pc' := 209) rfl (hb hby at_200) rfl ((if0 _ _).trans (feq (fun q => hc200_52 ((lw_eq _ _).mp q))).2) (by decide) (by decide) k) ?_
          refine own_via (S' := T41.setTop (mkF m 210 #[.val (.long q0), .second, .val (.int p1), .val (.int p2), .val (.int p3), .val (.int (0 : Int32)), .val (.int z3_0), .val (.int z5_0), .val (.int (0 : Int32)), .val (.long z9_0), .second, .val (.ref b11), .val (.ref b20), .val (.ref b28), .val (.ref b34), .val (.ref b38), .unset] [(.int (1 : Int32))])) (fun t k => XS.iconst X41.here hx rfl (hb hby at_209) k) ?_
          refine own_via (S' := T41.setTop (mkF m 212 #[.val (.long q0), .second, .val (.int p1), .val (.int p2), .val (.int p3), .val (.int (0 : Int32)), .val (.int z3_0), .val (.int z5_0), .val (.int (0 : Int32)), .val (.long z9_0), .second, .val (.ref b11), .val (.ref b20), .val (.ref b28), .val (.ref b34), .val (.ref b38), .val (.int (1 : Int32))] [])) (fun t k => XS.istore X41.here hx rfl (hb hby at_210) rfl (l' := #[.val (.long q0), .second, .val (.int p1), .val (.int p2), .val (.int p3), .val (.int (0 : Int32)), .val (.int z3_0), .val (.int z5_0), .val (.int (0 : Int32)), .val (.long z9_0), .second, .val (.ref b11), .val (.ref b20), .val (.ref b28), .val (.ref b34), .val (.ref b38), .val (.int (1 : Int32))]) rfl k) ?_
          refine own_via (S' := T41.setTop (mkF m 214 #[.val (.long q0), .second, .val (.int p1), .val (.int p2), .val (.int p3), .val (.int (0 : Int32)), .val (.int z3_0), .val (.int z5_0), .val (.int (0 : Int32)), .val (.long z9_0), .second, .val (.ref b11), .val (.ref b20), .val (.ref b28), .val (.ref b34), .val (.ref b38), .val (.int (1 : Int32))] [(.ref b38)])) (fun t k => XS.aload X41.here hx rfl (hb hby at_212) rfl rfl k) ?_
          have cx58 : Exa Z T41.heap b38 "com/example/object_access_rules/objectaccessrules/service/HttpRequest" := (A38.keep K41q)
          obtain ⟨cq57, kq57, q57a, q57b, q57c⟩ := isOf hZ rfl cx58
          obtain ⟨_, _, ⟨T57, Lp57, kp57, np57⟩, -, X57, ⟨Lc57, hQ57, l57, y57, z57⟩, st57⟩ := X41.virtualBack hx (y := mt6) (z := mt6) hown (mvT hZ (wd71 hw)) (mvT hZ (wd72 hw)) (notFace_of_selects (args := #[]) (mvT hZ (wd74 hw))) (mvT hZ (wd74 hw)) (mvT hZ (wd73 hw)) (by decide) (backOf (W := 0) (own_hasBody l Z a0 hw [] b38 z9_0 (0 : Int32) T41.heap n0 O43 f41_0 f41_1_r44) hZ (wd75 hw) (wd47 hw) (by decide) (by decide)) q57a q57c (g := (mkF m 214 #[.val (.long q0), .second, .val (.int p1), .val (.int p2), .val (.int p3), .val (.int (0 : Int32)), .val (.int z3_0), .val (.int z5_0), .val (.int (0 : Int32)), .val (.long z9_0), .second, .val (.ref b11), .val (.ref b20), .val (.ref b28), .val (.ref b34), .val (.ref b38), .val (.int (1 : Int32))] [(.ref b38)])) rfl (by rw [hml]; rfl) (Steps.refl _) (argsL := []) (rest := []) (lenOf pd___Z_171 rfl) rfl (by show 2 * 0 + _ ≤ _; exact Nat.le_of_eq rfl) (hb hby at_214) (fun _ _ => ⟨rfl, rfl, (by decide : 8 + 0 ≤ _), (by decide : 25 + 0 ≤ _)⟩)
          dsimp only [Pt.U, Pt.locs, Pt.cells, Pt.slots] at X57 l57 y57 z57 st57 hQ57
          subst Lp57 kp57 np57
          obtain ⟨z57, rfl, rfl, e57, hz57_0⟩ := hQ57
          try rw [List.append_nil] at X57
          refine own_tr (S' := T57.setTop (mkF m 217 #[.val (.long q0), .second, .val (.int p1), .val (.int p2), .val (.int p3), .val (.int (0 : Int32)), .val (.int z3_0), .val (.int z5_0), .val (.int (0 : Int32)), .val (.long z9_0), .second, .val (.ref b11), .val (.ref b20), .val (.ref b28), .val (.ref b34), .val (.ref b38), .val (.int (1 : Int32))] [(.int z57)])) st57 ?_
          refine own_via (S' := T57.setTop (mkF m 219 #[.val (.long q0), .second, .val (.int p1), .val (.int p2), .val (.int p3), .val (.int (0 : Int32)), .val (.int z3_0), .val (.int z5_0), .val (.int (0 : Int32)), .val (.long z9_0), .second, .val (.ref b11), .val (.ref b20), .val (.ref b28), .val (.ref b34), .val (.ref b38), .val (.int (1 : Int32))] [(.int (1 : Int32)), (.int z57)])) (fun t k => XS.iload X57.here hx rfl (hb hby at_217) rfl k) ?_
          by_cases hz59 : (0 : Int64) < z9_0
          · -- yes
            obtain rfl : z57 = (1 : Int32) := hz57_0.trans ((if_pos rfl).trans (if_pos hz59))
            refine own_via (S' := T57.setTop (mkF m 222 #[.val (.long q0), .second, .val (.int p1), .val (.int p2), .val (.int p3), .val (.int (0 : Int32)), .val (.int z3_0), .val (.int z5_0), .val (.int (0 : Int32)), .val (.long z9_0), .second, .val (.ref b11), .val (.ref b20), .val (.ref b28), .val (.ref b34), .val (.ref b38), .val (.int (1 : Int32))] [])) (fun t k => XS.icmpNo X57.here hx rfl (hb hby at_219) rfl (teq (by decide : (1 : Int32) = (1 : Int32))).2 k) ?_
            refine own_via (S' := T57.setTop (mkF m 223 #[.val (.long q0), .second, .val (.int p1), .val (.int p2), .val (.int p3), .val (.int (0 : Int32)), .val (.int z3_0), .val (.int z5_0), .val (.int (0 : Int32)), .val (.long z9_0), .second, .val (.ref b11), .val (.ref b20), .val (.ref b28), .val (.ref b34), .val (.ref b38), .val (.int (1 : Int32))] [(.int (1 : Int32))])) (fun t k => XS.iconst X57.here hx rfl (hb hby at_222) k) ?_
            refine own_via (S' := T57.setTop (mkF m 227 #[.val (.long q0), .second, .val (.int p1), .val (.int p2), .val (.int p3), .val (.int (0 : Int32)), .val (.int z3_0), .val (.int z5_0), .val (.int (0 : Int32)), .val (.long z9_0), .second, .val (.ref b11), .val (.ref b20), .val (.ref b28), .val (.ref b34), .val (.ref b38), .val (.int (1 : Int32))] [(.int (1 : Int32))])) (fun t k => XS.goto X57.here hx rfl (pc0 := 223) (pc' := 227) rfl (hb hby at_223) (by decide) (by decide) k) ?_
            refine own_ret (Q := Q_own_law Z q0 p1 p2 p3 zc h0 n0) (C := room_1.cells) (N := room_1.slots) X57 (v := some (.int (1 : Int32))) (fun h => by rw [Bd.returns] at h; cases h) Bd.notSynchronized ?_ (by decide) (by decide) (fun fs hr => retN X57 hx (t := .boolean) Bd.returns (by simp) (hb hby at_227) hr)
            show Q_own_law Z q0 p1 p2 p3 zc h0 n0 _ T57.heap _
            rw [e57]
            exact ⟨rfl, N41⟩
          · -- no
            exact absurd (own_pos hz9_0 hc187_47 hc200_52) hz59
    · -- no
      obtain rfl : z1_0 = (1 : Int32) := hz1_0.trans (if_neg hz45)
      refine own_via (S' := T41.setTop (mkF m 175 #[.val (.long q0), .second, .val (.int p1), .val (.int p2), .val (.int p3), .val (.int (1 : Int32)), .val (.int z3_0), .val (.int z5_0), .val (.int (0 : Int32)), .val (.long z9_0), .second, .val (.ref b11), .val (.ref b20), .val (.ref b28), .val (.ref b34), .val (.ref b38), .unset] [])) (fun t k => XS.ifNo X41.here hx rfl (hb hby at_172) rfl ((if0 _ _).trans (feq (by decide : ¬ ((1 : Int32) = (0 : Int32)))).1) k) ?_
      refine own_via (S' := T41.setTop (mkF m 176 #[.val (.long q0), .second, .val (.int p1), .val (.int p2), .val (.int p3), .val (.int (1 : Int32)), .val (.int z3_0), .val (.int z5_0), .val (.int (0 : Int32)), .val (.long z9_0), .second, .val (.ref b11), .val (.ref b20), .val (.ref b28), .val (.ref b34), .val (.ref b38), .unset] [(.int (1 : Int32))])) (fun t k => XS.iconst X41.here hx rfl (hb hby at_175) k) ?_
      refine own_via (S' := T41.setTop (mkF m 178 #[.val (.long q0), .second, .val (.int p1), .val (.int p2), .val (.int p3), .val (.int (1 : Int32)), .val (.int z3_0), .val (.int z5_0), .val (.int (0 : Int32)), .val (.long z9_0), .second, .val (.ref b11), .val (.ref b20), .val (.ref b28), .val (.ref b34), .val (.ref b38), .val (.int (1 : Int32))] [])) (fun t k => XS.istore X41.here hx rfl (hb hby at_176) rfl (l' := #[.val (.long q0), .second, .val (.int p1), .val (.int p2), .val (.int p3), .val (.int (1 : Int32)), .val (.int z3_0), .val (.int z5_0), .val (.int (0 : Int32)), .val (.long z9_0), .second, .val (.ref b11), .val (.ref b20), .val (.ref b28), .val (.ref b34), .val (.ref b38), .val (.int (1 : Int32))]) rfl k) ?_
      refine own_via (S' := T41.setTop (mkF m 212 #[.val (.long q0), .second, .val (.int p1), .val (.int p2), .val (.int p3), .val (.int (1 : Int32)), .val (.int z3_0), .val (.int z5_0), .val (.int (0 : Int32)), .val (.long z9_0), .second, .val (.ref b11), .val (.ref b20), .val (.ref b28), .val (.ref b34), .val (.ref b38), .val (.int (1 : Int32))] [])) (fun t k => XS.goto X41.here hx rfl (pc0 := 178) (pc' := 212) rfl (hb hby at_178) (by decide) (by decide) k) ?_
      refine own_via (S' := T41.setTop (mkF m 214 #[.val (.long q0), .second, .val (.int p1), .val (.int p2), .val (.int p3), .val (.int (1 : Int32)), .val (.int z3_0), .val (.int z5_0), .val (.int (0 : Int32)), .val (.long z9_0), .second, .val (.ref b11), .val (.ref b20), .val (.ref b28), .val (.ref b34), .val (.ref b38), .val (.int (1 : Int32))] [(.ref b38)])) (fun t k => XS.aload X41.here hx rfl (hb hby at_212) rfl rfl k) ?_
      have cx63 : Exa Z T41.heap b38 "com/example/object_access_rules/objectaccessrules/service/HttpRequest" := (A38.keep K41q)
      obtain ⟨cq62, kq62, q62a, q62b, q62c⟩ := isOf hZ rfl cx63
      obtain ⟨_, _, ⟨T62, Lp62, kp62, np62⟩, -, X62, ⟨Lc62, hQ62, l62, y62, z62⟩, st62⟩ := X41.virtualBack hx (y := mt6) (z := mt6) hown (mvT hZ (wd71 hw)) (mvT hZ (wd72 hw)) (notFace_of_selects (args := #[]) (mvT hZ (wd74 hw))) (mvT hZ (wd74 hw)) (mvT hZ (wd73 hw)) (by decide) (backOf (W := 0) (own_hasBody l Z a0 hw [] b38 z9_0 (1 : Int32) T41.heap n0 O43 f41_0 f41_1_r44) hZ (wd75 hw) (wd47 hw) (by decide) (by decide)) q62a q62c (g := (mkF m 214 #[.val (.long q0), .second, .val (.int p1), .val (.int p2), .val (.int p3), .val (.int (1 : Int32)), .val (.int z3_0), .val (.int z5_0), .val (.int (0 : Int32)), .val (.long z9_0), .second, .val (.ref b11), .val (.ref b20), .val (.ref b28), .val (.ref b34), .val (.ref b38), .val (.int (1 : Int32))] [(.ref b38)])) rfl (by rw [hml]; rfl) (Steps.refl _) (argsL := []) (rest := []) (lenOf pd___Z_171 rfl) rfl (by show 2 * 0 + _ ≤ _; exact Nat.le_of_eq rfl) (hb hby at_214) (fun _ _ => ⟨rfl, rfl, (by decide : 8 + 0 ≤ _), (by decide : 25 + 0 ≤ _)⟩)
      dsimp only [Pt.U, Pt.locs, Pt.cells, Pt.slots] at X62 l62 y62 z62 st62 hQ62
      subst Lp62 kp62 np62
      obtain ⟨z62, rfl, rfl, e62, hz62_0⟩ := hQ62
      try rw [List.append_nil] at X62
      refine own_tr (S' := T62.setTop (mkF m 217 #[.val (.long q0), .second, .val (.int p1), .val (.int p2), .val (.int p3), .val (.int (1 : Int32)), .val (.int z3_0), .val (.int z5_0), .val (.int (0 : Int32)), .val (.long z9_0), .second, .val (.ref b11), .val (.ref b20), .val (.ref b28), .val (.ref b34), .val (.ref b38), .val (.int (1 : Int32))] [(.int z62)])) st62 ?_
      refine own_via (S' := T62.setTop (mkF m 219 #[.val (.long q0), .second, .val (.int p1), .val (.int p2), .val (.int p3), .val (.int (1 : Int32)), .val (.int z3_0), .val (.int z5_0), .val (.int (0 : Int32)), .val (.long z9_0), .second, .val (.ref b11), .val (.ref b20), .val (.ref b28), .val (.ref b34), .val (.ref b38), .val (.int (1 : Int32))] [(.int (1 : Int32)), (.int z62)])) (fun t k => XS.iload X62.here hx rfl (hb hby at_217) rfl k) ?_
      obtain rfl : z62 = (1 : Int32) := hz62_0.trans (if_neg (by decide))
      refine own_via (S' := T62.setTop (mkF m 222 #[.val (.long q0), .second, .val (.int p1), .val (.int p2), .val (.int p3), .val (.int (1 : Int32)), .val (.int z3_0), .val (.int z5_0), .val (.int (0 : Int32)), .val (.long z9_0), .second, .val (.ref b11), .val (.ref b20), .val (.ref b28), .val (.ref b34), .val (.ref b38), .val (.int (1 : Int32))] [])) (fun t k => XS.icmpNo X62.here hx rfl (hb hby at_219) rfl (teq (by decide : (1 : Int32) = (1 : Int32))).2 k) ?_
      refine own_via (S' := T62.setTop (mkF m 223 #[.val (.long q0), .second, .val (.int p1), .val (.int p2), .val (.int p3), .val (.int (1 : Int32)), .val (.int z3_0), .val (.int z5_0), .val (.int (0 : Int32)), .val (.long z9_0), .second, .val (.ref b11), .val (.ref b20), .val (.ref b28), .val (.ref b34), .val (.ref b38), .val (.int (1 : Int32))] [(.int (1 : Int32))])) (fun t k => XS.iconst X62.here hx rfl (hb hby at_222) k) ?_
      refine own_via (S' := T62.setTop (mkF m 227 #[.val (.long q0), .second, .val (.int p1), .val (.int p2), .val (.int p3), .val (.int (1 : Int32)), .val (.int z3_0), .val (.int z5_0), .val (.int (0 : Int32)), .val (.long z9_0), .second, .val (.ref b11), .val (.ref b20), .val (.ref b28), .val (.ref b34), .val (.ref b38), .val (.int (1 : Int32))] [(.int (1 : Int32))])) (fun t k => XS.goto X62.here hx rfl (pc0 := 223) (pc' := 227) rfl (hb hby at_223) (by decide) (by decide) k) ?_
      refine own_ret (Q := Q_own_law Z q0 p1 p2 p3 zc h0 n0) (C := room_1.cells) (N := room_1.slots) X62 (v := some (.int (1 : Int32))) (fun h => by rw [Bd.returns] at h; cases h) Bd.notSynchronized ?_ (by decide) (by decide) (fun fs hr => retN X62 hx (t := .boolean) Bd.returns (by simp) (hb hby at_227) hr)
      show Q_own_law Z q0 p1 p2 p3 zc h0 n0 _ T62.heap _
      rw [e62]
      exact ⟨rfl, N41⟩
  · -- no
    obtain rfl : z7_0 = (1 : Int32) := hz7_0.trans (if_neg hz32)
    refine own_via (S' := T28.setTop (mkF m 128 #[.val (.long q0), .second, .val (.int p1), .val (.int p2), .val (.int p3), .val (.int z1_0), .val (.int z3_0), .val (.int z5_0), .val (.int (1 : Int32)), .val (.long z9_0), .second, .val (.ref b11), .val (.ref b20), .val (.ref b28), .unset, .unset, .unset] [])) (fun t k => XS.ifNo X28.here hx rfl (hb hby at_125) rfl ((if0 _ _).trans (feq (by decide : ¬ ((1 : Int32) = (0 : Int32)))).1) k) ?_
    refine own_via (S' := T28.setTop (mkF m 129 #[.val (.long q0), .second, .val (.int p1), .val (.int p2), .val (.int p3), .val (.int z1_0), .val (.int z3_0), .val (.int z5_0), .val (.int (1 : Int32)), .val (.long z9_0), .second, .val (.ref b11), .val (.ref b20), .val (.ref b28), .unset, .unset, .unset] [.null])) (fun t k => XS.aconstNull X28.here hx rfl (hb hby at_128) k) ?_
    refine own_via (S' := T28.setTop (mkF m 145 #[.val (.long q0), .second, .val (.int p1), .val (.int p2), .val (.int p3), .val (.int z1_0), .val (.int z3_0), .val (.int z5_0), .val (.int (1 : Int32)), .val (.long z9_0), .second, .val (.ref b11), .val (.ref b20), .val (.ref b28), .unset, .unset, .unset] [.null])) (fun t k => XS.goto X28.here hx rfl (pc0 := 129) (pc' := 145) rfl (hb hby at_129) (by decide) (by decide) k) ?_
    refine own_via (S' := T28.setTop (mkF m 147 #[.val (.long q0), .second, .val (.int p1), .val (.int p2), .val (.int p3), .val (.int z1_0), .val (.int z3_0), .val (.int z5_0), .val (.int (1 : Int32)), .val (.long z9_0), .second, .val (.ref b11), .val (.ref b20), .val (.ref b28), .val .null, .unset, .unset] [])) (fun t k => XS.astore X28.here hx rfl (hb hby at_145) rfl rfl (l' := #[.val (.long q0), .second, .val (.int p1), .val (.int p2), .val (.int p3), .val (.int z1_0), .val (.int z3_0), .val (.int z5_0), .val (.int (1 : Int32)), .val (.long z9_0), .second, .val (.ref b11), .val (.ref b20), .val (.ref b28), .val .null, .unset, .unset]) rfl k) ?_
    obtain ⟨T66, h66, X66, e66, E66, A66, D66, -, st66⟩ := newO X28 hx hZ hown (wd45 hw) (wd46 hw) (wd47 hw) rfl (g := (mkF m 147 #[.val (.long q0), .second, .val (.int p1), .val (.int p2), .val (.int p3), .val (.int z1_0), .val (.int z3_0), .val (.int z5_0), .val (.int (1 : Int32)), .val (.long z9_0), .second, .val (.ref b11), .val (.ref b20), .val (.ref b28), .val .null, .unset, .unset] [])) rfl (hb hby at_147) (by decide) (by decide)
    obtain ⟨b66, g66⟩ : ∃ z, z = T28.heap.size := ⟨_, rfl⟩
    rw [← g66] at A66 D66 st66
    have lt_b66 : h66.size > b66 := A66.lt
    have sz67 : T28.heap.size ≤ h66.size := E66.1
    have O68 : Old Z n0 h66 := O30.ext E66
    have F66_method : Fld Z h66 b66 "com/example/object_access_rules/objectaccessrules/service/HttpRequest" "method" "Ljava/lang/String;" .null := D66 (Or.inr (wd58 hw)) (ty := (.object "java/lang/String")) (by decide)
    have F66_path : Fld Z h66 b66 "com/example/object_access_rules/objectaccessrules/service/HttpRequest" "path" "Ljava/lang/String;" .null := D66 (Or.inr (wd60 hw)) (ty := (.object "java/lang/String")) (by decide)
    have F66_host : Fld Z h66 b66 "com/example/object_access_rules/objectaccessrules/service/HttpRequest" "host" "Ljava/lang/String;" .null := D66 (Or.inr (wd62 hw)) (ty := (.object "java/lang/String")) (by decide)
    have F66_contentLength : Fld Z h66 b66 "com/example/object_access_rules/objectaccessrules/service/HttpRequest" "contentLength" "J" (.long (0 : Int64)) := D66 (Or.inr (wd64 hw)) (ty := .long) (by decide)
    have F66_chunked : Fld Z h66 b66 "com/example/object_access_rules/objectaccessrules/service/HttpRequest" "chunked" "Z" (.int (0 : Int32)) := D66 (Or.inr (wd66 hw)) (ty := .boolean) (by decide)
    have F66_keepAlive : Fld Z h66 b66 "com/example/object_access_rules/objectaccessrules/service/HttpRequest" "keepAlive" "Z" (.int (0 : Int32)) := D66 (Or.inr (wd68 hw)) (ty := .boolean) (by decide)
    have F66_expectsContinue : Fld Z h66 b66 "com/example/object_access_rules/objectaccessrules/service/HttpRequest" "expectsContinue" "Z" (.int (0 : Int32)) := D66 (Or.inr (wd70 hw)) (ty := .boolean) (by decide)
    refine own_via (S' := T66.setTop (mkF m 150 #[.val (.long q0), .second, .val (.int p1), .val (.int p2), .val (.int p3), .val (.int z1_0), .val (.int z3_0), .val (.int z5_0), .val (.int (1 : Int32)), .val (.long z9_0), .second, .val (.ref b11), .val (.ref b20), .val (.ref b28), .val .null, .unset, .unset] [(.ref b66)])) st66 ?_
    refine own_via (S' := T66.setTop (mkF m 151 #[.val (.long q0), .second, .val (.int p1), .val (.int p2), .val (.int p3), .val (.int z1_0), .val (.int z3_0), .val (.int z5_0), .val (.int (1 : Int32)), .val (.long z9_0), .second, .val (.ref b11), .val (.ref b20), .val (.ref b28), .val .null, .unset, .unset] [(.ref b66), (.ref b66)])) (fun t k => XS.dup X66.here hx rfl (hb hby at_150) rfl rfl k) ?_
    refine own_via (S' := T66.setTop (mkF m 153 #[.val (.long q0), .second, .val (.int p1), .val (.int p2), .val (.int p3), .val (.int z1_0), .val (.int z3_0), .val (.int z5_0), .val (.int (1 : Int32)), .val (.long z9_0), .second, .val (.ref b11), .val (.ref b20), .val (.ref b28), .val .null, .unset, .unset] [(.ref b20), (.ref b66), (.ref b66)])) (fun t k => XS.aload X66.here hx rfl (hb hby at_151) rfl rfl k) ?_
    refine own_via (S' := T66.setTop (mkF m 155 #[.val (.long q0), .second, .val (.int p1), .val (.int p2), .val (.int p3), .val (.int z1_0), .val (.int z3_0), .val (.int z5_0), .val (.int (1 : Int32)), .val (.long z9_0), .second, .val (.ref b11), .val (.ref b20), .val (.ref b28), .val .null, .unset, .unset] [(.ref b28), (.ref b20), (.ref b66), (.ref b66)])) (fun t k => XS.aload X66.here hx rfl (hb hby at_153) rfl rfl k) ?_
    refine own_via (S' := T66.setTop (mkF m 157 #[.val (.long q0), .second, .val (.int p1), .val (.int p2), .val (.int p3), .val (.int z1_0), .val (.int z3_0), .val (.int z5_0), .val (.int (1 : Int32)), .val (.long z9_0), .second, .val (.ref b11), .val (.ref b20), .val (.ref b28), .val .null, .unset, .unset] [.null, (.ref b28), (.ref b20), (.ref b66), (.ref b66)])) (fun t k => XS.aload X66.here hx rfl (hb hby at_155) rfl rfl k) ?_
    refine own_via (S' := T66.setTop (mkF m 159 #[.val (.long q0), .second, .val (.int p1), .val (.int p2), .val (.int p3), .val (.int z1_0), .val (.int z3_0), .val (.int z5_0), .val (.int (1 : Int32)), .val (.long z9_0), .second, .val (.ref b11), .val (.ref b20), .val (.ref b28), .val .null, .unset, .unset] [(.long z9_0), .null, (.ref b28), (.ref b20), (.ref b66), (.ref b66)])) (fun t k => XS.lload X66.here hx rfl (hb hby at_157) rfl k) ?_
    refine own_via (S' := T66.setTop (mkF m 161 #[.val (.long q0), .second, .val (.int p1), .val (.int p2), .val (.int p3), .val (.int z1_0), .val (.int z3_0), .val (.int z5_0), .val (.int (1 : Int32)), .val (.long z9_0), .second, .val (.ref b11), .val (.ref b20), .val (.ref b28), .val .null, .unset, .unset] [(.int z1_0), (.long z9_0), .null, (.ref b28), (.ref b20), (.ref b66), (.ref b66)])) (fun t k => XS.iload X66.here hx rfl (hb hby at_159) rfl k) ?_
    refine own_via (S' := T66.setTop (mkF m 163 #[.val (.long q0), .second, .val (.int p1), .val (.int p2), .val (.int p3), .val (.int z1_0), .val (.int z3_0), .val (.int z5_0), .val (.int (1 : Int32)), .val (.long z9_0), .second, .val (.ref b11), .val (.ref b20), .val (.ref b28), .val .null, .unset, .unset] [(.int z3_0), (.int z1_0), (.long z9_0), .null, (.ref b28), (.ref b20), (.ref b66), (.ref b66)])) (fun t k => XS.iload X66.here hx rfl (hb hby at_161) rfl k) ?_
    refine own_via (S' := T66.setTop (mkF m 165 #[.val (.long q0), .second, .val (.int p1), .val (.int p2), .val (.int p3), .val (.int z1_0), .val (.int z3_0), .val (.int z5_0), .val (.int (1 : Int32)), .val (.long z9_0), .second, .val (.ref b11), .val (.ref b20), .val (.ref b28), .val .null, .unset, .unset] [(.int z5_0), (.int z3_0), (.int z1_0), (.long z9_0), .null, (.ref b28), (.ref b20), (.ref b66), (.ref b66)])) (fun t k => XS.iload X66.here hx rfl (hb hby at_163) rfl k) ?_
    obtain ⟨_, _, ⟨T69, Lp69, kp69, np69⟩, -, X69, ⟨Lc69, hQ69, l69, y69, z69⟩, st69⟩ := X66.specialBack hx (y := mt5) rfl hown (mvT hZ (wd48 hw)) (mvT hZ (wd49 hw)) (mvT hZ (wd50 hw)) (by decide) (backOf (W := 1) (own_hrN l Z a0 hw [] b66 b20 b28 z9_0 z1_0 z3_0 z5_0 h66 n0 O68 A66 F66_method F66_path F66_host F66_contentLength F66_chunked F66_keepAlive F66_expectsContinue (by omega)) hZ (wd50 hw) (wd47 hw) (by decide) (by decide)) (g := (mkF m 165 #[.val (.long q0), .second, .val (.int p1), .val (.int p2), .val (.int p3), .val (.int z1_0), .val (.int z3_0), .val (.int z5_0), .val (.int (1 : Int32)), .val (.long z9_0), .second, .val (.ref b11), .val (.ref b20), .val (.ref b28), .val .null, .unset, .unset] [(.int z5_0), (.int z3_0), (.int z1_0), (.long z9_0), .null, (.ref b28), (.ref b20), (.ref b66), (.ref b66)])) rfl (by rw [hml]; rfl) (Steps.refl _) (a := b66) (argsL := [(.ref b20), (.ref b28), .null, (.long z9_0), (.int z1_0), (.int z3_0), (.int z5_0)]) (rest := [(.ref b66)]) (lenOf pd__Ljava_lang_String_Ljava_lang_String_Ljava_lang_String_JZZZ_V_5599 rfl) rfl (by show 2 * 0 + _ ≤ _; exact Nat.le_of_eq rfl) (hb hby at_165) (fun _ _ => ⟨rfl, e66, (by decide : 6 + 0 ≤ _), (by decide : 20 + 0 ≤ _)⟩)
    dsimp only [Pt.U, Pt.locs, Pt.cells, Pt.slots] at X69 l69 y69 z69 st69 hQ69
    subst Lp69 kp69 np69
    obtain ⟨rfl, N69q, K69q, f69_0, f69_1⟩ := hQ69
    have N69 := Fr.app N28 N69q
    have sz70 : h66.size ≤ T69.heap.size := K69q.1
    have O71 : Old Z n0 T69.heap := O68.keep K69q (allS (by omega : n0 ≤ b66) all0)
    refine own_tr (S' := T69.setTop (mkF m 168 #[.val (.long q0), .second, .val (.int p1), .val (.int p2), .val (.int p3), .val (.int z1_0), .val (.int z3_0), .val (.int z5_0), .val (.int (1 : Int32)), .val (.long z9_0), .second, .val (.ref b11), .val (.ref b20), .val (.ref b28), .val .null, .unset, .unset] [(.ref b66)])) st69 ?_
    have rw72 : (nar .boolean z1_0) = z1_0 := by rw [hz1_0]; split <;> rfl
    have f69_1_r72 : Fld Z T69.heap b66 "com/example/object_access_rules/objectaccessrules/service/HttpRequest" "chunked" "Z" (.int z1_0) := rw72 ▸ f69_1
    refine own_via (S' := T69.setTop (mkF m 170 #[.val (.long q0), .second, .val (.int p1), .val (.int p2), .val (.int p3), .val (.int z1_0), .val (.int z3_0), .val (.int z5_0), .val (.int (1 : Int32)), .val (.long z9_0), .second, .val (.ref b11), .val (.ref b20), .val (.ref b28), .val .null, .val (.ref b66), .unset] [])) (fun t k => XS.astore X69.here hx rfl (hb hby at_168) rfl rfl (l' := #[.val (.long q0), .second, .val (.int p1), .val (.int p2), .val (.int p3), .val (.int z1_0), .val (.int z3_0), .val (.int z5_0), .val (.int (1 : Int32)), .val (.long z9_0), .second, .val (.ref b11), .val (.ref b20), .val (.ref b28), .val .null, .val (.ref b66), .unset]) rfl k) ?_
    refine own_via (S' := T69.setTop (mkF m 172 #[.val (.long q0), .second, .val (.int p1), .val (.int p2), .val (.int p3), .val (.int z1_0), .val (.int z3_0), .val (.int z5_0), .val (.int (1 : Int32)), .val (.long z9_0), .second, .val (.ref b11), .val (.ref b20), .val (.ref b28), .val .null, .val (.ref b66), .unset] [(.int z1_0)])) (fun t k => XS.iload X69.here hx rfl (hb hby at_170) rfl k) ?_
    by_cases hz73 : (p1 &&& (1 : Int32)) = (0 : Int32)
    · -- yes
      obtain rfl : z1_0 = (0 : Int32) := hz1_0.trans (if_pos hz73)
      refine own_via (S' := T69.setTop (mkF m 181 #[.val (.long q0), .second, .val (.int p1), .val (.int p2), .val (.int p3), .val (.int (0 : Int32)), .val (.int z3_0), .val (.int z5_0), .val (.int (1 : Int32)), .val (.long z9_0), .second, .val (.ref b11), .val (.ref b20), .val (.ref b28), .val .null, .val (.ref b66), .unset] [])) (fun t k => XS.ifYes X69.here hx rfl (pc0 := 172) (pc' := 181) rfl (hb hby at_172) rfl ((if0 _ _).trans (teq (by decide : (0 : Int32) = (0 : Int32))).1) (by decide) (by decide) k) ?_
      refine own_via (S' := T69.setTop (mkF m 183 #[.val (.long q0), .second, .val (.int p1), .val (.int p2), .val (.int p3), .val (.int (0 : Int32)), .val (.int z3_0), .val (.int z5_0), .val (.int (1 : Int32)), .val (.long z9_0), .second, .val (.ref b11), .val (.ref b20), .val (.ref b28), .val .null, .val (.ref b66), .unset] [(.long z9_0)])) (fun t k => XS.lload X69.here hx rfl (hb hby at_181) rfl k) ?_
      refine own_via (S' := T69.setTop (mkF m 186 #[.val (.long q0), .second, .val (.int p1), .val (.int p2), .val (.int p3), .val (.int (0 : Int32)), .val (.int z3_0), .val (.int z5_0), .val (.int (1 : Int32)), .val (.long z9_0), .second, .val (.ref b11), .val (.ref b20), .val (.ref b28), .val .null, .val (.ref b66), .unset] [(.long (-1 : Int64)), (.long z9_0)])) (fun t k => X69.ldc2Long hx hown (mvT hZ (wd0 hw)) (g := (mkF m 183 #[.val (.long q0), .second, .val (.int p1), .val (.int p2), .val (.int p3), .val (.int (0 : Int32)), .val (.int z3_0), .val (.int z5_0), .val (.int (1 : Int32)), .val (.long z9_0), .second, .val (.ref b11), .val (.ref b20), .val (.ref b28), .val .null, .val (.ref b66), .unset] [(.long z9_0)])) rfl (hb hby at_183) _ k) ?_
      refine own_via (S' := T69.setTop (mkF m 187 #[.val (.long q0), .second, .val (.int p1), .val (.int p2), .val (.int p3), .val (.int (0 : Int32)), .val (.int z3_0), .val (.int z5_0), .val (.int (1 : Int32)), .val (.long z9_0), .second, .val (.ref b11), .val (.ref b20), .val (.ref b28), .val .null, .val (.ref b66), .unset] [(.int (lcmpW z9_0 (-1 : Int64)))])) (fun t k => XS.lcmp X69.here hx rfl (hb hby at_186) rfl k) ?_
      by_cases hc187_75 : z9_0 = (-1 : Int64)
      · -- yes
        refine own_via (S' := T69.setTop (mkF m 190 #[.val (.long q0), .second, .val (.int p1), .val (.int p2), .val (.int p3), .val (.int (0 : Int32)), .val (.int z3_0), .val (.int z5_0), .val (.int (1 : Int32)), .val (.long z9_0), .second, .val (.ref b11), .val (.ref b20), .val (.ref b28), .val .null, .val (.ref b66), .unset] [])) (fun t k => XS.ifNo X69.here hx rfl (hb hby at_187) rfl ((if0 _ _).trans (teq ((lw_eq _ _).mpr hc187_75)).2) k) ?_
        refine own_via (S' := T69.setTop (mkF m 191 #[.val (.long q0), .second, .val (.int p1), .val (.int p2), .val (.int p3), .val (.int (0 : Int32)), .val (.int z3_0), .val (.int z5_0), .val (.int (1 : Int32)), .val (.long z9_0), .second, .val (.ref b11), .val (.ref b20), .val (.ref b28), .val .null, .val (.ref b66), .unset] [(.int (0 : Int32))])) (fun t k => XS.iconst X69.here hx rfl (hb hby at_190) k) ?_
        refine own_via (S' := T69.setTop (mkF m 193 #[.val (.long q0), .second, .val (.int p1), .val (.int p2), .val (.int p3), .val (.int (0 : Int32)), .val (.int z3_0), .val (.int z5_0), .val (.int (1 : Int32)), .val (.long z9_0), .second, .val (.ref b11), .val (.ref b20), .val (.ref b28), .val .null, .val (.ref b66), .val (.int (0 : Int32))] [])) (fun t k => XS.istore X69.here hx rfl (hb hby at_191) rfl (l' := #[.val (.long q0), .second, .val (.int p1), .val (.int p2), .val (.int p3), .val (.int (0 : Int32)), .val (.int z3_0), .val (.int z5_0), .val (.int (1 : Int32)), .val (.long z9_0), .second, .val (.ref b11), .val (.ref b20), .val (.ref b28), .val .null, .val (.ref b66), .val (.int (0 : Int32))]) rfl k) ?_
        refine own_via (S' := T69.setTop (mkF m 212 #[.val (.long q0), .second, .val (.int p1), .val (.int p2), .val (.int p3), .val (.int (0 : Int32)), .val (.int z3_0), .val (.int z5_0), .val (.int (1 : Int32)), .val (.long z9_0), .second, .val (.ref b11), .val (.ref b20), .val (.ref b28), .val .null, .val (.ref b66), .val (.int (0 : Int32))] [])) (fun t k => XS.goto X69.here hx rfl (pc0 := 193) (pc' := 212) rfl (hb hby at_193) (by decide) (by decide) k) ?_
        refine own_via (S' := T69.setTop (mkF m 214 #[.val (.long q0), .second, .val (.int p1), .val (.int p2), .val (.int p3), .val (.int (0 : Int32)), .val (.int z3_0), .val (.int z5_0), .val (.int (1 : Int32)), .val (.long z9_0), .second, .val (.ref b11), .val (.ref b20), .val (.ref b28), .val .null, .val (.ref b66), .val (.int (0 : Int32))] [(.ref b66)])) (fun t k => XS.aload X69.here hx rfl (hb hby at_212) rfl rfl k) ?_
        have cx77 : Exa Z T69.heap b66 "com/example/object_access_rules/objectaccessrules/service/HttpRequest" := (A66.keep K69q)
        obtain ⟨cq76, kq76, q76a, q76b, q76c⟩ := isOf hZ rfl cx77
        obtain ⟨_, _, ⟨T76, Lp76, kp76, np76⟩, -, X76, ⟨Lc76, hQ76, l76, y76, z76⟩, st76⟩ := X69.virtualBack hx (y := mt6) (z := mt6) hown (mvT hZ (wd71 hw)) (mvT hZ (wd72 hw)) (notFace_of_selects (args := #[]) (mvT hZ (wd74 hw))) (mvT hZ (wd74 hw)) (mvT hZ (wd73 hw)) (by decide) (backOf (W := 0) (own_hasBody l Z a0 hw [] b66 z9_0 (0 : Int32) T69.heap n0 O71 f69_0 f69_1_r72) hZ (wd75 hw) (wd47 hw) (by decide) (by decide)) q76a q76c (g := (mkF m 214 #[.val (.long q0), .second, .val (.int p1), .val (.int p2), .val (.int p3), .val (.int (0 : Int32)), .val (.int z3_0), .val (.int z5_0), .val (.int (1 : Int32)), .val (.long z9_0), .second, .val (.ref b11), .val (.ref b20), .val (.ref b28), .val .null, .val (.ref b66), .val (.int (0 : Int32))] [(.ref b66)])) rfl (by rw [hml]; rfl) (Steps.refl _) (argsL := []) (rest := []) (lenOf pd___Z_171 rfl) rfl (by show 2 * 0 + _ ≤ _; exact Nat.le_of_eq rfl) (hb hby at_214) (fun _ _ => ⟨rfl, rfl, (by decide : 6 + 0 ≤ _), (by decide : 20 + 0 ≤ _)⟩)
        dsimp only [Pt.U, Pt.locs, Pt.cells, Pt.slots] at X76 l76 y76 z76 st76 hQ76
        subst Lp76 kp76 np76
        obtain ⟨z76, rfl, rfl, e76, hz76_0⟩ := hQ76
        try rw [List.append_nil] at X76
        refine own_tr (S' := T76.setTop (mkF m 217 #[.val (.long q0), .second, .val (.int p1), .val (.int p2), .val (.int p3), .val (.int (0 : Int32)), .val (.int z3_0), .val (.int z5_0), .val (.int (1 : Int32)), .val (.long z9_0), .second, .val (.ref b11), .val (.ref b20), .val (.ref b28), .val .null, .val (.ref b66), .val (.int (0 : Int32))] [(.int z76)])) st76 ?_
        refine own_via (S' := T76.setTop (mkF m 219 #[.val (.long q0), .second, .val (.int p1), .val (.int p2), .val (.int p3), .val (.int (0 : Int32)), .val (.int z3_0), .val (.int z5_0), .val (.int (1 : Int32)), .val (.long z9_0), .second, .val (.ref b11), .val (.ref b20), .val (.ref b28), .val .null, .val (.ref b66), .val (.int (0 : Int32))] [(.int (0 : Int32)), (.int z76)])) (fun t k => XS.iload X76.here hx rfl (hb hby at_217) rfl k) ?_
        by_cases hz78 : (0 : Int64) < z9_0
        · -- yes
          rw [hc187_75] at hz78; exact absurd hz78 (by decide)
        · -- no
          obtain rfl : z76 = (0 : Int32) := hz76_0.trans ((if_pos rfl).trans (if_neg hz78))
          refine own_via (S' := T76.setTop (mkF m 222 #[.val (.long q0), .second, .val (.int p1), .val (.int p2), .val (.int p3), .val (.int (0 : Int32)), .val (.int z3_0), .val (.int z5_0), .val (.int (1 : Int32)), .val (.long z9_0), .second, .val (.ref b11), .val (.ref b20), .val (.ref b28), .val .null, .val (.ref b66), .val (.int (0 : Int32))] [])) (fun t k => XS.icmpNo X76.here hx rfl (hb hby at_219) rfl (teq (by decide : (0 : Int32) = (0 : Int32))).2 k) ?_
          refine own_via (S' := T76.setTop (mkF m 223 #[.val (.long q0), .second, .val (.int p1), .val (.int p2), .val (.int p3), .val (.int (0 : Int32)), .val (.int z3_0), .val (.int z5_0), .val (.int (1 : Int32)), .val (.long z9_0), .second, .val (.ref b11), .val (.ref b20), .val (.ref b28), .val .null, .val (.ref b66), .val (.int (0 : Int32))] [(.int (1 : Int32))])) (fun t k => XS.iconst X76.here hx rfl (hb hby at_222) k) ?_
          refine own_via (S' := T76.setTop (mkF m 227 #[.val (.long q0), .second, .val (.int p1), .val (.int p2), .val (.int p3), .val (.int (0 : Int32)), .val (.int z3_0), .val (.int z5_0), .val (.int (1 : Int32)), .val (.long z9_0), .second, .val (.ref b11), .val (.ref b20), .val (.ref b28), .val .null, .val (.ref b66), .val (.int (0 : Int32))] [(.int (1 : Int32))])) (fun t k => XS.goto X76.here hx rfl (pc0 := 223) (pc' := 227) rfl (hb hby at_223) (by decide) (by decide) k) ?_
          refine own_ret (Q := Q_own_law Z q0 p1 p2 p3 zc h0 n0) (C := room_1.cells) (N := room_1.slots) X76 (v := some (.int (1 : Int32))) (fun h => by rw [Bd.returns] at h; cases h) Bd.notSynchronized ?_ (by decide) (by decide) (fun fs hr => retN X76 hx (t := .boolean) Bd.returns (by simp) (hb hby at_227) hr)
          show Q_own_law Z q0 p1 p2 p3 zc h0 n0 _ T76.heap _
          rw [e76]
          exact ⟨rfl, N69⟩
      · -- no
        refine own_via (S' := T69.setTop (mkF m 196 #[.val (.long q0), .second, .val (.int p1), .val (.int p2), .val (.int p3), .val (.int (0 : Int32)), .val (.int z3_0), .val (.int z5_0), .val (.int (1 : Int32)), .val (.long z9_0), .second, .val (.ref b11), .val (.ref b20), .val (.ref b28), .val .null, .val (.ref b66), .unset] [])) (fun t k => XS.ifYes X69.here hx rfl (pc0 := 187) (pc' := 196) rfl (hb hby at_187) rfl ((if0 _ _).trans (feq (fun q => hc187_75 ((lw_eq _ _).mp q))).2) (by decide) (by decide) k) ?_
        refine own_via (S' := T69.setTop (mkF m 198 #[.val (.long q0), .second, .val (.int p1), .val (.int p2), .val (.int p3), .val (.int (0 : Int32)), .val (.int z3_0), .val (.int z5_0), .val (.int (1 : Int32)), .val (.long z9_0), .second, .val (.ref b11), .val (.ref b20), .val (.ref b28), .val .null, .val (.ref b66), .unset] [(.long z9_0)])) (fun t k => XS.lload X69.here hx rfl (hb hby at_196) rfl k) ?_
        refine own_via (S' := T69.setTop (mkF m 199 #[.val (.long q0), .second, .val (.int p1), .val (.int p2), .val (.int p3), .val (.int (0 : Int32)), .val (.int z3_0), .val (.int z5_0), .val (.int (1 : Int32)), .val (.long z9_0), .second, .val (.ref b11), .val (.ref b20), .val (.ref b28), .val .null, .val (.ref b66), .unset] [(.long (0 : Int64)), (.long z9_0)])) (fun t k => XS.lconst X69.here hx rfl (hb hby at_198) k) ?_
        refine own_via (S' := T69.setTop (mkF m 200 #[.val (.long q0), .second, .val (.int p1), .val (.int p2), .val (.int p3), .val (.int (0 : Int32)), .val (.int z3_0), .val (.int z5_0), .val (.int (1 : Int32)), .val (.long z9_0), .second, .val (.ref b11), .val (.ref b20), .val (.ref b28), .val .null, .val (.ref b66), .unset] [(.int (lcmpW z9_0 (0 : Int64)))])) (fun t k => XS.lcmp X69.here hx rfl (hb hby at_199) rfl k) ?_
        by_cases hc200_80 : z9_0 = (0 : Int64)
        · -- yes
          refine own_via (S' := T69.setTop (mkF m 203 #[.val (.long q0), .second, .val (.int p1), .val (.int p2), .val (.int p3), .val (.int (0 : Int32)), .val (.int z3_0), .val (.int z5_0), .val (.int (1 : Int32)), .val (.long z9_0), .second, .val (.ref b11), .val (.ref b20), .val (.ref b28), .val .null, .val (.ref b66), .unset] [])) (fun t k => XS.ifNo X69.here hx rfl (hb hby at_200) rfl ((if0 _ _).trans (teq ((lw_eq _ _).mpr hc200_80)).2) k) ?_
          refine own_via (S' := T69.setTop (mkF m 204 #[.val (.long q0), .second, .val (.int p1), .val (.int p2), .val (.int p3), .val (.int (0 : Int32)), .val (.int z3_0), .val (.int z5_0), .val (.int (1 : Int32)), .val (.long z9_0), .second, .val (.ref b11), .val (.ref b20), .val (.ref b28), .val .null, .val (.ref b66), .unset] [(.int (0 : Int32))])) (fun t k => XS.iconst X69.here hx rfl (hb hby at_203) k) ?_
          refine own_via (S' := T69.setTop (mkF m 206 #[.val (.long q0), .second, .val (.int p1), .val (.int p2), .val (.int p3), .val (.int (0 : Int32)), .val (.int z3_0), .val (.int z5_0), .val (.int (1 : Int32)), .val (.long z9_0), .second, .val (.ref b11), .val (.ref b20), .val (.ref b28), .val .null, .val (.ref b66), .val (.int (0 : Int32))] [])) (fun t k => XS.istore X69.here hx rfl (hb hby at_204) rfl (l' := #[.val (.long q0), .second, .val (.int p1), .val (.int p2), .val (.int p3), .val (.int (0 : Int32)), .val (.int z3_0), .val (.int z5_0), .val (.int (1 : Int32)), .val (.long z9_0), .second, .val (.ref b11), .val (.ref b20), .val (.ref b28), .val .null, .val (.ref b66), .val (.int (0 : Int32))]) rfl k) ?_
          refine own_via (S' := T69.setTop (mkF m 212 #[.val (.long q0), .second, .val (.int p1), .val (.int p2), .val (.int p3), .val (.int (0 : Int32)), .val (.int z3_0), .val (.int z5_0), .val (.int (1 : Int32)), .val (.long z9_0), .second, .val (.ref b11), .val (.ref b20), .val (.ref b28), .val .null, .val (.ref b66), .val (.int (0 : Int32))] [])) (fun t k => XS.goto X69.here hx rfl (pc0 := 206) (pc' := 212) rfl (hb hby at_206) (by decide) (by decide) k) ?_
          refine own_via (S' := T69.setTop (mkF m 214 #[.val (.long q0), .second, .val (.int p1), .val (.int p2), .val (.int p3), .val (.int (0 : Int32)), .val (.int z3_0), .val (.int z5_0), .val (.int (1 : Int32)), .val (.long z9_0), .second, .val (.ref b11), .val (.ref b20), .val (.ref b28), .val .null, .val (.ref b66), .val (.int (0 : Int32))] [(.ref b66)])) (fun t k => XS.aload X69.here hx rfl (hb hby at_212) rfl rfl k) ?_
          have cx82 : Exa Z T69.heap b66 "com/example/object_access_rules/objectaccessrules/service/HttpRequest" := (A66.keep K69q)
          obtain ⟨cq81, kq81, q81a, q81b, q81c⟩ := isOf hZ rfl cx82
          obtain ⟨_, _, ⟨T81, Lp81, kp81, np81⟩, -, X81, ⟨Lc81, hQ81, l81, y81, z81⟩, st81⟩ := X69.virtualBack hx (y := mt6) (z := mt6) hown (mvT hZ (wd71 hw)) (mvT hZ (wd72 hw)) (notFace_of_selects (args := #[]) (mvT hZ (wd74 hw))) (mvT hZ (wd74 hw)) (mvT hZ (wd73 hw)) (by decide) (backOf (W := 0) (own_hasBody l Z a0 hw [] b66 z9_0 (0 : Int32) T69.heap n0 O71 f69_0 f69_1_r72) hZ (wd75 hw) (wd47 hw) (by decide) (by decide)) q81a q81c (g := (mkF m 214 #[.val (.long q0), .second, .val (.int p1), .val (.int p2), .val (.int p3), .val (.int (0 : Int32)), .val (.int z3_0), .val (.int z5_0), .val (.int (1 : Int32)), .val (.long z9_0), .second, .val (.ref b11), .val (.ref b20), .val (.ref b28), .val .null, .val (.ref b66), .val (.int (0 : Int32))] [(.ref b66)])) rfl (by rw [hml]; rfl) (Steps.refl _) (argsL := []) (rest := []) (lenOf pd___Z_171 rfl) rfl (by show 2 * 0 + _ ≤ _; exact Nat.le_of_eq rfl) (hb hby at_214) (fun _ _ => ⟨rfl, rfl, (by decide : 6 + 0 ≤ _), (by decide : 20 + 0 ≤ _)⟩)
          dsimp only [Pt.U, Pt.locs, Pt.cells, Pt.slots] at X81 l81 y81 z81 st81 hQ81
          subst Lp81 kp81 np81
          obtain ⟨z81, rfl, rfl, e81, hz81_0⟩ := hQ81
          try rw [List.append_nil] at X81
          refine own_tr (S' := T81.setTop (mkF m 217 #[.val (.long q0), .second, .val (.int p1), .val (.int p2), .val (.int p3), .val (.int (0 : Int32)), .val (.int z3_0), .val (.int z5_0), .val (.int (1 : Int32)), .val (.long z9_0), .second, .val (.ref b11), .val (.ref b20), .val (.ref b28), .val .null, .val (.ref b66), .val (.int (0 : Int32))] [(.int z81)])) st81 ?_
          refine own_via (S' := T81.setTop (mkF m 219 #[.val (.long q0), .second, .val (.int p1), .val (.int p2), .val (.int p3), .val (.int (0 : Int32)), .val (.int z3_0), .val (.int z5_0), .val (.int (1 : Int32)), .val (.long z9_0), .second, .val (.ref b11), .val (.ref b20), .val (.ref b28), .val .null, .val (.ref b66), .val (.int (0 : Int32))] [(.int (0 : Int32)), (.int z81)])) (fun t k => XS.iload X81.here hx rfl (hb hby at_217) rfl k) ?_
          by_cases hz83 : (0 : Int64) < z9_0
          · -- yes
            rw [hc200_80] at hz83; exact absurd hz83 (by decide)
          · -- no
            obtain rfl : z81 = (0 : Int32) := hz81_0.trans ((if_pos rfl).trans (if_neg hz83))
            refine own_via (S' := T81.setTop (mkF m 222 #[.val (.long q0), .second, .val (.int p1), .val (.int p2), .val (.int p3), .val (.int (0 : Int32)), .val (.int z3_0), .val (.int z5_0), .val (.int (1 : Int32)), .val (.long z9_0), .second, .val (.ref b11), .val (.ref b20), .val (.ref b28), .val .null, .val (.ref b66), .val (.int (0 : Int32))] [])) (fun t k => XS.icmpNo X81.here hx rfl (hb hby at_219) rfl (teq (by decide : (0 : Int32) = (0 : Int32))).2 k) ?_
            refine own_via (S' := T81.setTop (mkF m 223 #[.val (.long q0), .second, .val (.int p1), .val (.int p2), .val (.int p3), .val (.int (0 : Int32)), .val (.int z3_0), .val (.int z5_0), .val (.int (1 : Int32)), .val (.long z9_0), .second, .val (.ref b11), .val (.ref b20), .val (.ref b28), .val .null, .val (.ref b66), .val (.int (0 : Int32))] [(.int (1 : Int32))])) (fun t k => XS.iconst X81.here hx rfl (hb hby at_222) k) ?_
            refine own_via (S' := T81.setTop (mkF m 227 #[.val (.long q0), .second, .val (.int p1), .val (.int p2), .val (.int p3), .val (.int (0 : Int32)), .val (.int z3_0), .val (.int z5_0), .val (.int (1 : Int32)), .val (.long z9_0), .second, .val (.ref b11), .val (.ref b20), .val (.ref b28), .val .null, .val (.ref b66), .val (.int (0 : Int32))] [(.int (1 : Int32))])) (fun t k => XS.goto X81.here hx rfl (pc0 := 223) (pc' := 227) rfl (hb hby at_223) (by decide) (by decide) k) ?_
            refine own_ret (Q := Q_own_law Z q0 p1 p2 p3 zc h0 n0) (C := room_1.cells) (N := room_1.slots) X81 (v := some (.int (1 : Int32))) (fun h => by rw [Bd.returns] at h; cases h) Bd.notSynchronized ?_ (by decide) (by decide) (fun fs hr => retN X81 hx (t := .boolean) Bd.returns (by simp) (hb hby at_227) hr)
            show Q_own_law Z q0 p1 p2 p3 zc h0 n0 _ T81.heap _
            rw [e81]
            exact ⟨rfl, N69⟩
        · -- no
          refine own_via (S' := T69.setTop (mkF m 209 #[.val (.long q0), .second, .val (.int p1), .val (.int p2), .val (.int p3), .val (.int (0 : Int32)), .val (.int z3_0), .val (.int z5_0), .val (.int (1 : Int32)), .val (.long z9_0), .second, .val (.ref b11), .val (.ref b20), .val (.ref b28), .val .null, .val (.ref b66), .unset] [])) (fun t k => XS.ifYes X69.here hx rfl (pc0 := 200) (pc' := 209) rfl (hb hby at_200) rfl ((if0 _ _).trans (feq (fun q => hc200_80 ((lw_eq _ _).mp q))).2) (by decide) (by decide) k) ?_
          refine own_via (S' := T69.setTop (mkF m 210 #[.val (.long q0), .second, .val (.int p1), .val (.int p2), .val (.int p3), .val (.int (0 : Int32)), .val (.int z3_0), .val (.int z5_0), .val (.int (1 : Int32)), .val (.long z9_0), .second, .val (.ref b11), .val (.ref b20), .val (.ref b28), .val .null, .val (.ref b66), .unset] [(.int (1 : Int32))])) (fun t k => XS.iconst X69.here hx rfl (hb hby at_209) k) ?_
          refine own_via (S' := T69.setTop (mkF m 212 #[.val (.long q0), .second, .val (.int p1), .val (.int p2), .val (.int p3), .val (.int (0 : Int32)), .val (.int z3_0), .val (.int z5_0), .val (.int (1 : Int32)), .val (.long z9_0), .second, .val (.ref b11), .val (.ref b20), .val (.ref b28), .val .null, .val (.ref b66), .val (.int (1 : Int32))] [])) (fun t k => XS.istore X69.here hx rfl (hb hby at_210) rfl (l' := #[.val (.long q0), .second, .val (.int p1), .val (.int p2), .val (.int p3), .val (.int (0 : Int32)), .val (.int z3_0), .val (.int z5_0), .val (.int (1 : Int32)), .val (.long z9_0), .second, .val (.ref b11), .val (.ref b20), .val (.ref b28), .val .null, .val (.ref b66), .val (.int (1 : Int32))]) rfl k) ?_
          refine own_via (S' := T69.setTop (mkF m 214 #[.val (.long q0), .second, .val (.int p1), .val (.int p2), .val (.int p3), .val (.int (0 : Int32)), .val (.int z3_0), .val (.int z5_0), .val (.int (1 : Int32)), .val (.long z9_0), .second, .val (.ref b11), .val (.ref b20), .val (.ref b28), .val .null, .val (.ref b66), .val (.int (1 : Int32))] [(.ref b66)])) (fun t k => XS.aload X69.here hx rfl (hb hby at_212) rfl rfl k) ?_
          have cx86 : Exa Z T69.heap b66 "com/example/object_access_rules/objectaccessrules/service/HttpRequest" := (A66.keep K69q)
          obtain ⟨cq85, kq85, q85a, q85b, q85c⟩ := isOf hZ rfl cx86
          obtain ⟨_, _, ⟨T85, Lp85, kp85, np85⟩, -, X85, ⟨Lc85, hQ85, l85, y85, z85⟩, st85⟩ := X69.virtualBack hx (y := mt6) (z := mt6) hown (mvT hZ (wd71 hw)) (mvT hZ (wd72 hw)) (notFace_of_selects (args := #[]) (mvT hZ (wd74 hw))) (mvT hZ (wd74 hw)) (mvT hZ (wd73 hw)) (by decide) (backOf (W := 0) (own_hasBody l Z a0 hw [] b66 z9_0 (0 : Int32) T69.heap n0 O71 f69_0 f69_1_r72) hZ (wd75 hw) (wd47 hw) (by decide) (by decide)) q85a q85c (g := (mkF m 214 #[.val (.long q0), .second, .val (.int p1), .val (.int p2), .val (.int p3), .val (.int (0 : Int32)), .val (.int z3_0), .val (.int z5_0), .val (.int (1 : Int32)), .val (.long z9_0), .second, .val (.ref b11), .val (.ref b20), .val (.ref b28), .val .null, .val (.ref b66), .val (.int (1 : Int32))] [(.ref b66)])) rfl (by rw [hml]; rfl) (Steps.refl _) (argsL := []) (rest := []) (lenOf pd___Z_171 rfl) rfl (by show 2 * 0 + _ ≤ _; exact Nat.le_of_eq rfl) (hb hby at_214) (fun _ _ => ⟨rfl, rfl, (by decide : 6 + 0 ≤ _), (by decide : 20 + 0 ≤ _)⟩)
          dsimp only [Pt.U, Pt.locs, Pt.cells, Pt.slots] at X85 l85 y85 z85 st85 hQ85
          subst Lp85 kp85 np85
          obtain ⟨z85, rfl, rfl, e85, hz85_0⟩ := hQ85
          try rw [List.append_nil] at X85
          refine own_tr (S' := T85.setTop (mkF m 217 #[.val (.long q0), .second, .val (.int p1), .val (.int p2), .val (.int p3), .val (.int (0 : Int32)), .val (.int z3_0), .val (.int z5_0), .val (.int (1 : Int32)), .val (.long z9_0), .second, .val (.ref b11), .val (.ref b20), .val (.ref b28), .val .null, .val (.ref b66), .val (.int (1 : Int32))] [(.int z85)])) st85 ?_
          refine own_via (S' := T85.setTop (mkF m 219 #[.val (.long q0), .second, .val (.int p1), .val (.int p2), .val (.int p3), .val (.int (0 : Int32)), .val (.int z3_0), .val (.int z5_0), .val (.int (1 : Int32)), .val (.long z9_0), .second, .val (.ref b11), .val (.ref b20), .val (.ref b28), .val .null, .val (.ref b66), .val (.int (1 : Int32))] [(.int (1 : Int32)), (.int z85)])) (fun t k => XS.iload X85.here hx rfl (hb hby at_217) rfl k) ?_
          by_cases hz87 : (0 : Int64) < z9_0
          · -- yes
            obtain rfl : z85 = (1 : Int32) := hz85_0.trans ((if_pos rfl).trans (if_pos hz87))
            refine own_via (S' := T85.setTop (mkF m 222 #[.val (.long q0), .second, .val (.int p1), .val (.int p2), .val (.int p3), .val (.int (0 : Int32)), .val (.int z3_0), .val (.int z5_0), .val (.int (1 : Int32)), .val (.long z9_0), .second, .val (.ref b11), .val (.ref b20), .val (.ref b28), .val .null, .val (.ref b66), .val (.int (1 : Int32))] [])) (fun t k => XS.icmpNo X85.here hx rfl (hb hby at_219) rfl (teq (by decide : (1 : Int32) = (1 : Int32))).2 k) ?_
            refine own_via (S' := T85.setTop (mkF m 223 #[.val (.long q0), .second, .val (.int p1), .val (.int p2), .val (.int p3), .val (.int (0 : Int32)), .val (.int z3_0), .val (.int z5_0), .val (.int (1 : Int32)), .val (.long z9_0), .second, .val (.ref b11), .val (.ref b20), .val (.ref b28), .val .null, .val (.ref b66), .val (.int (1 : Int32))] [(.int (1 : Int32))])) (fun t k => XS.iconst X85.here hx rfl (hb hby at_222) k) ?_
            refine own_via (S' := T85.setTop (mkF m 227 #[.val (.long q0), .second, .val (.int p1), .val (.int p2), .val (.int p3), .val (.int (0 : Int32)), .val (.int z3_0), .val (.int z5_0), .val (.int (1 : Int32)), .val (.long z9_0), .second, .val (.ref b11), .val (.ref b20), .val (.ref b28), .val .null, .val (.ref b66), .val (.int (1 : Int32))] [(.int (1 : Int32))])) (fun t k => XS.goto X85.here hx rfl (pc0 := 223) (pc' := 227) rfl (hb hby at_223) (by decide) (by decide) k) ?_
            refine own_ret (Q := Q_own_law Z q0 p1 p2 p3 zc h0 n0) (C := room_1.cells) (N := room_1.slots) X85 (v := some (.int (1 : Int32))) (fun h => by rw [Bd.returns] at h; cases h) Bd.notSynchronized ?_ (by decide) (by decide) (fun fs hr => retN X85 hx (t := .boolean) Bd.returns (by simp) (hb hby at_227) hr)
            show Q_own_law Z q0 p1 p2 p3 zc h0 n0 _ T85.heap _
            rw [e85]
            exact ⟨rfl, N69⟩
          · -- no
            exact absurd (own_pos hz9_0 hc187_75 hc200_80) hz87
    · -- no
      obtain rfl : z1_0 = (1 : Int32) := hz1_0.trans (if_neg hz73)
      refine own_via (S' := T69.setTop (mkF m 175 #[.val (.long q0), .second, .val (.int p1), .val (.int p2), .val (.int p3), .val (.int (1 : Int32)), .val (.int z3_0), .val (.int z5_0), .val (.int (1 : Int32)), .val (.long z9_0), .second, .val (.ref b11), .val (.ref b20), .val (.ref b28), .val .null, .val (.ref b66), .unset] [])) (fun t k => XS.ifNo X69.here hx rfl (hb hby at_172) rfl ((if0 _ _).trans (feq (by decide : ¬ ((1 : Int32) = (0 : Int32)))).1) k) ?_
      refine own_via (S' := T69.setTop (mkF m 176 #[.val (.long q0), .second, .val (.int p1), .val (.int p2), .val (.int p3), .val (.int (1 : Int32)), .val (.int z3_0), .val (.int z5_0), .val (.int (1 : Int32)), .val (.long z9_0), .second, .val (.ref b11), .val (.ref b20), .val (.ref b28), .val .null, .val (.ref b66), .unset] [(.int (1 : Int32))])) (fun t k => XS.iconst X69.here hx rfl (hb hby at_175) k) ?_
      refine own_via (S' := T69.setTop (mkF m 178 #[.val (.long q0), .second, .val (.int p1), .val (.int p2), .val (.int p3), .val (.int (1 : Int32)), .val (.int z3_0), .val (.int z5_0), .val (.int (1 : Int32)), .val (.long z9_0), .second, .val (.ref b11), .val (.ref b20), .val (.ref b28), .val .null, .val (.ref b66), .val (.int (1 : Int32))] [])) (fun t k => XS.istore X69.here hx rfl (hb hby at_176) rfl (l' := #[.val (.long q0), .second, .val (.int p1), .val (.int p2), .val (.int p3), .val (.int (1 : Int32)), .val (.int z3_0), .val (.int z5_0), .val (.int (1 : Int32)), .val (.long z9_0), .second, .val (.ref b11), .val (.ref b20), .val (.ref b28), .val .null, .val (.ref b66), .val (.int (1 : Int32))]) rfl k) ?_
      refine own_via (S' := T69.setTop (mkF m 212 #[.val (.long q0), .second, .val (.int p1), .val (.int p2), .val (.int p3), .val (.int (1 : Int32)), .val (.int z3_0), .val (.int z5_0), .val (.int (1 : Int32)), .val (.long z9_0), .second, .val (.ref b11), .val (.ref b20), .val (.ref b28), .val .null, .val (.ref b66), .val (.int (1 : Int32))] [])) (fun t k => XS.goto X69.here hx rfl (pc0 := 178) (pc' := 212) rfl (hb hby at_178) (by decide) (by decide) k) ?_
      refine own_via (S' := T69.setTop (mkF m 214 #[.val (.long q0), .second, .val (.int p1), .val (.int p2), .val (.int p3), .val (.int (1 : Int32)), .val (.int z3_0), .val (.int z5_0), .val (.int (1 : Int32)), .val (.long z9_0), .second, .val (.ref b11), .val (.ref b20), .val (.ref b28), .val .null, .val (.ref b66), .val (.int (1 : Int32))] [(.ref b66)])) (fun t k => XS.aload X69.here hx rfl (hb hby at_212) rfl rfl k) ?_
      have cx91 : Exa Z T69.heap b66 "com/example/object_access_rules/objectaccessrules/service/HttpRequest" := (A66.keep K69q)
      obtain ⟨cq90, kq90, q90a, q90b, q90c⟩ := isOf hZ rfl cx91
      obtain ⟨_, _, ⟨T90, Lp90, kp90, np90⟩, -, X90, ⟨Lc90, hQ90, l90, y90, z90⟩, st90⟩ := X69.virtualBack hx (y := mt6) (z := mt6) hown (mvT hZ (wd71 hw)) (mvT hZ (wd72 hw)) (notFace_of_selects (args := #[]) (mvT hZ (wd74 hw))) (mvT hZ (wd74 hw)) (mvT hZ (wd73 hw)) (by decide) (backOf (W := 0) (own_hasBody l Z a0 hw [] b66 z9_0 (1 : Int32) T69.heap n0 O71 f69_0 f69_1_r72) hZ (wd75 hw) (wd47 hw) (by decide) (by decide)) q90a q90c (g := (mkF m 214 #[.val (.long q0), .second, .val (.int p1), .val (.int p2), .val (.int p3), .val (.int (1 : Int32)), .val (.int z3_0), .val (.int z5_0), .val (.int (1 : Int32)), .val (.long z9_0), .second, .val (.ref b11), .val (.ref b20), .val (.ref b28), .val .null, .val (.ref b66), .val (.int (1 : Int32))] [(.ref b66)])) rfl (by rw [hml]; rfl) (Steps.refl _) (argsL := []) (rest := []) (lenOf pd___Z_171 rfl) rfl (by show 2 * 0 + _ ≤ _; exact Nat.le_of_eq rfl) (hb hby at_214) (fun _ _ => ⟨rfl, rfl, (by decide : 6 + 0 ≤ _), (by decide : 20 + 0 ≤ _)⟩)
      dsimp only [Pt.U, Pt.locs, Pt.cells, Pt.slots] at X90 l90 y90 z90 st90 hQ90
      subst Lp90 kp90 np90
      obtain ⟨z90, rfl, rfl, e90, hz90_0⟩ := hQ90
      try rw [List.append_nil] at X90
      refine own_tr (S' := T90.setTop (mkF m 217 #[.val (.long q0), .second, .val (.int p1), .val (.int p2), .val (.int p3), .val (.int (1 : Int32)), .val (.int z3_0), .val (.int z5_0), .val (.int (1 : Int32)), .val (.long z9_0), .second, .val (.ref b11), .val (.ref b20), .val (.ref b28), .val .null, .val (.ref b66), .val (.int (1 : Int32))] [(.int z90)])) st90 ?_
      refine own_via (S' := T90.setTop (mkF m 219 #[.val (.long q0), .second, .val (.int p1), .val (.int p2), .val (.int p3), .val (.int (1 : Int32)), .val (.int z3_0), .val (.int z5_0), .val (.int (1 : Int32)), .val (.long z9_0), .second, .val (.ref b11), .val (.ref b20), .val (.ref b28), .val .null, .val (.ref b66), .val (.int (1 : Int32))] [(.int (1 : Int32)), (.int z90)])) (fun t k => XS.iload X90.here hx rfl (hb hby at_217) rfl k) ?_
      obtain rfl : z90 = (1 : Int32) := hz90_0.trans (if_neg (by decide))
      refine own_via (S' := T90.setTop (mkF m 222 #[.val (.long q0), .second, .val (.int p1), .val (.int p2), .val (.int p3), .val (.int (1 : Int32)), .val (.int z3_0), .val (.int z5_0), .val (.int (1 : Int32)), .val (.long z9_0), .second, .val (.ref b11), .val (.ref b20), .val (.ref b28), .val .null, .val (.ref b66), .val (.int (1 : Int32))] [])) (fun t k => XS.icmpNo X90.here hx rfl (hb hby at_219) rfl (teq (by decide : (1 : Int32) = (1 : Int32))).2 k) ?_
      refine own_via (S' := T90.setTop (mkF m 223 #[.val (.long q0), .second, .val (.int p1), .val (.int p2), .val (.int p3), .val (.int (1 : Int32)), .val (.int z3_0), .val (.int z5_0), .val (.int (1 : Int32)), .val (.long z9_0), .second, .val (.ref b11), .val (.ref b20), .val (.ref b28), .val .null, .val (.ref b66), .val (.int (1 : Int32))] [(.int (1 : Int32))])) (fun t k => XS.iconst X90.here hx rfl (hb hby at_222) k) ?_
      refine own_via (S' := T90.setTop (mkF m 227 #[.val (.long q0), .second, .val (.int p1), .val (.int p2), .val (.int p3), .val (.int (1 : Int32)), .val (.int z3_0), .val (.int z5_0), .val (.int (1 : Int32)), .val (.long z9_0), .second, .val (.ref b11), .val (.ref b20), .val (.ref b28), .val .null, .val (.ref b66), .val (.int (1 : Int32))] [(.int (1 : Int32))])) (fun t k => XS.goto X90.here hx rfl (pc0 := 223) (pc' := 227) rfl (hb hby at_223) (by decide) (by decide) k) ?_
      refine own_ret (Q := Q_own_law Z q0 p1 p2 p3 zc h0 n0) (C := room_1.cells) (N := room_1.slots) X90 (v := some (.int (1 : Int32))) (fun h => by rw [Bd.returns] at h; cases h) Bd.notSynchronized ?_ (by decide) (by decide) (fun fs hr => retN X90 hx (t := .boolean) Bd.returns (by simp) (hb hby at_227) hr)
      show Q_own_law Z q0 p1 p2 p3 zc h0 n0 _ T90.heap _
      rw [e90]
      exact ⟨rfl, N69⟩
set_option maxRecDepth 65536 in
set_option maxHeartbeats 40000000 in
theorem comes_1 {Post : Tables → Env → Array Value → State → Outcome → State → Prop} (hpost : ∀ tb e args s v u, (limb_1_1.after args s (.returned v) u = true ∧ limb_1_2.after args s (.returned v) u = true ∧ True) → FrameEnd s (.returned v) u (Jvm.fieldLocs frame_1_writes args s ++ Jvm.arrayLocs frame_1_arrays args s ++ Jvm.staticLocs frame_1_statics s) 24 128 → Post tb e args s (.returned v) u) :
    ArmFor flags0 classFile x code maxLocals ret World_1 tables_1 room_1 Calls_1 rest_1 Pre_1 Post := by
  intro l hfl _ _ p e ha hc hk s m args below hf hA hF happ hP
  obtain ⟨hcalls, hrest, hpre⟩ := hP
  obtain ⟨-, -, -, hnamed, -, -, -, hat⟩ := (Spec.applies_iff hf).mp happ
  obtain ⟨hg, hn⟩ := and_e (Cond.before_iff.mp (show (Jvm.Cond.and given_1 narrow_1).before args s = true from hpre))
  obtain ⟨hcount, hg⟩ := and_e hg
  obtain ⟨hg0, hg⟩ := and_e hg
  obtain ⟨hg1, hg⟩ := and_e hg
  obtain ⟨hg2, hg⟩ := and_e hg
  have hg3 := hg
  obtain ⟨w0, w1, w2, w3, rfl⟩ : ∃ w0 w1 w2 w3 : Value, args = #[w0, w1, w2, w3] := by
    have hs : args.size = 4 := by simpa [Cond.value, given_1] using hcount
    obtain ⟨L⟩ := args
    match L, hs with
    | [w0, w1, w2, w3], _ => exact ⟨w0, w1, w2, w3, rfl⟩
  have hw := fun d (hd : d ∈ tables_1) => atoms_spec (ws := Jvm.Cond.code x code maxLocals ret :: tables_1) hat d (List.mem_cons_of_mem _ hd)
  have hfit : Fit s := fun {y c} hc i hi => by
    obtain ⟨ha, rfl⟩ := Array.getElem?_eq_some_iff.mp hc
    have q := List.all_eq_true.mp ((Array.all_eq_true_iff_forall_mem.mp hF) _ (Array.getElem_mem ha)) i (List.mem_range.mpr hi)
    simpa [Array.getElem?_eq_getElem hi] using q
  obtain ⟨hsets, hown0⟩ := atoms_of _ (rest_1_c_eq ▸ (show rest_1_c.before _ s = true from hrest))
  have hr0 := Cond.before_iff.mp hown0
  obtain ⟨i0, ei0⟩ := isL_v hg0
  obtain rfl : w0 = (.long i0) := Option.some.inj ei0
  obtain ⟨i1, ei1⟩ := is_v hg1
  obtain rfl : w1 = (.int i1) := Option.some.inj ei1
  obtain ⟨i2, ei2⟩ := is_v hg2
  obtain rfl : w2 = (.int i2) := Option.some.inj ei2
  obtain ⟨i3, ei3⟩ := is_v hg3
  obtain rfl : w3 = (.int i3) := Option.some.inj ei3
  obtain ⟨zc, ez⟩ := is_v (Cond.before_iff.mp (hsets _ (List.mem_of_getElem? (i := 1) rfl)))
  have S_zc : Sta s s.heap "java/lang/String" "COMPACT_STRINGS" "Z" (.int zc) := Sta.start ez (Or.inl (hsets _ (List.mem_of_getElem? (i := 0) rfl)))
  have hzc : ¬ (zc = (0 : Int32)) := gotF (Cond.eq_ints ez (Term.int_eval (0))) (not_v (Cond.before_iff.mp (hsets _ (List.mem_of_getElem? (i := 2) rfl))))
  obtain ⟨n, o, h1, h2, h3, _, L, rfl, ⟨rfl, N⟩, hq⟩ := own_law l s _ hw tables_1 i0 i1 i2 i3 zc s.heap s.heap.size (Old.start s) S_zc hzc p e ha hc hk s m _ below hf ((Spec.applies_iff_loose hf).mp happ).1 ⟨rfl, State.Warmed39.refl s, rfl⟩ trivial
  refine ⟨n, _, h1, h2, h3, hpost _ _ _ _ _ _ ⟨Cond.after_iff.mpr rfl, Cond.after_iff.mpr (eq_i res_at (Term.int_eval (1)) rfl), trivial⟩ ⟨hq.1, hq.2.1, (hq.2.2.sift fun y hy => Or.inr (N y hy)).mono (by decide) (by decide)⟩⟩
theorem main_1_1 : Claimed_1_1 := comes_1 fun _ _ _ _ _ _ h hF => ⟨h.1, hF⟩
theorem main_1_2 : Claimed_1_2 := comes_1 fun _ _ _ _ _ _ h hF => ⟨h.2.1, hF⟩
end Jvm.Pilot.@@N@@
namespace Jvm.Pilot.@@N@@
open Jvm Jvm.ClassFile Sem Op Lib Jvm.Free Jvm.Stand Jvm.Pilot.@@N@@.Jvm.D
/-! MADE BY PROGRAM (witnessworld.py) out of the Statement's table words and the real class files: 21 classes; the members and pool entries that the words name. The judged class is class 1, her method 1. -/
namespace start1
open Jvm.ClassFile
def u (s : String) : CpInfo := .utf8 (stringToUtf16 s)
/-- a pool by its gaps: so many unusable entries, then the entry; so many at the end -/
def gap : Nat → List CpInfo → List CpInfo
  | 0, r => r
  | n + 1, r => .unusable :: gap n r
def poolList (es : List (Nat × CpInfo)) (last : Nat) : List CpInfo := es.foldr (fun e r => gap e.1 (e.2 :: r)) (gap last [])
def pool (es : List (Nat × CpInfo)) (last : Nat) : Array CpInfo := ⟨poolList es last⟩
def fileOf (pool : Array CpInfo) (this : Nat) (attrs : Array Attribute := #[]) (ms : Array MethodInfo := #[]) (fl : Nat := 33) (sup : Nat := 0) (ifs : Array Nat := #[]) (fds : Array FieldInfo := #[]) : ClassFile where
  minorVersion := 0
  majorVersion := 65
  constantPool := pool
  accessFlags := fl
  thisClass := this
  superClass := sup
  interfaces := ifs
  fields := fds
  methods := ms
  attributes := attrs
def plain (name : String) (sup : Option ClassId) : Class where
  name := name
  kind := .ordinary
  loader := none
  accessFlags := 33
  super := sup
  interfaces := #[]
  cf := none
  fields := #[]
  methods := #[]
  instanceTypes := #[]
  staticTypes := #[]
  resolved := #[]
  callSites := []
  init := .initialized
  statics := none
  mirror := none

def pool0 : Array CpInfo := pool [(5, u "<init>"), (0, u "()V"), (1, .class_ 10), (1, u "java/lang/Object")] 113

def k0c0 : Code := { maxStack := 0, maxLocals := 1, code := object_method_1_code, exceptionTable := #[], attributes := #[] }
def k0m0 : Method := { name := "<init>", desc := "()V", sig := { parameters := [], returnType := none }, accessFlags := 1, code := some k0c0 }
/-- java/lang/Object -/
def k0 : Class := { plain "java/lang/Object" none with
  accessFlags := 33
  interfaces := #[]
  cf := some (fileOf pool0 8 #[] #[{ accessFlags := 1, nameIndex := 5, descriptorIndex := 6, attributes := #[] }] 33 0 #[] #[])
  fields := #[]
  methods := #[k0m0]
  instanceTypes := #[]
  staticTypes := #[]
  resolved := Array.replicate 124 none
  statics := none }

def pool1 : Array CpInfo := pool [(2, .class_ 4), (1, u "java/lang/Object"), (0, u "<init>"), (0, u "()V"), (0, .long 18446744073709551615), (3, .long 9223372036854775807), (1, .class_ 14), (0, u "java/lang/String"), (0, .methodref 13 16), (0, .nameAndType 5 17), (0, u "([C)V"), (0, .methodref 13 19), (0, .nameAndType 20 21), (0, u "valueOf"), (0, u "(C)Ljava/lang/String;"), (0, .class_ 23), (0, u "com/example/object_access_rules/objectaccessrules/service/HttpRequest"), (0, .methodref 22 25), (0, .nameAndType 5 26), (0, u "(Ljava/lang/String;Ljava/lang/String;Ljava/lang/String;JZZZ)V"), (0, .methodref 22 28), (0, .nameAndType 29 30), (0, u "hasBody"), (0, u "()Z"), (0, .class_ 32), (0, u "com/example/object_access_rules/objectaccessrules/service/HttpRequestHasBodyPinLaw"), (2, u "law"), (0, u "(JIII)Z")] 5

def k1m0 : Method := { name := "<init>", desc := "()V", sig := { parameters := [], returnType := none }, accessFlags := 1, code := none }
def k1c1 : Code := { maxStack := 10, maxLocals := 17, code := code, exceptionTable := #[], attributes := #[] }
def k1m1 : Method := { name := "law", desc := "(JIII)Z", sig := { parameters := [.long, .int, .int, .int], returnType := some .boolean }, accessFlags := 9, code := some k1c1 }
/-- com/example/object_access_rules/objectaccessrules/service/HttpRequestHasBodyPinLaw -/
def k1 : Class := { plain "com/example/object_access_rules/objectaccessrules/service/HttpRequestHasBodyPinLaw" (some 0) with
  accessFlags := 49
  interfaces := #[]
  cf := some (fileOf pool1 31 #[] #[{ accessFlags := 1, nameIndex := 5, descriptorIndex := 6, attributes := #[] }, { accessFlags := 9, nameIndex := 35, descriptorIndex := 36, attributes := #[] }] 49 2 #[] #[])
  fields := #[]
  methods := #[k1m0, k1m1]
  instanceTypes := #[]
  staticTypes := #[]
  resolved := Array.replicate 42 none
  statics := none }

def pool2 : Array CpInfo := pool [(1, .class_ 2), (0, u "java/io/Serializable"), (0, .class_ 4), (0, u "java/lang/Object")] 2

/-- java/io/Serializable -/
def k2 : Class := { plain "java/io/Serializable" (some 0) with
  accessFlags := 1537
  interfaces := #[]
  cf := some (fileOf pool2 1 #[] #[] 1537 3 #[] #[])
  fields := #[]
  methods := #[]
  instanceTypes := #[]
  staticTypes := #[]
  resolved := Array.replicate 7 none
  statics := none }

def pool3 : Array CpInfo := pool [(1, .class_ 2), (0, u "java/lang/Comparable"), (0, .class_ 4), (0, u "java/lang/Object")] 7

/-- java/lang/Comparable -/
def k3 : Class := { plain "java/lang/Comparable" (some 0) with
  accessFlags := 1537
  interfaces := #[]
  cf := some (fileOf pool3 1 #[] #[] 1537 3 #[] #[])
  fields := #[]
  methods := #[]
  instanceTypes := #[]
  staticTypes := #[]
  resolved := Array.replicate 12 none
  statics := none }

def pool4 : Array CpInfo := pool [(2, .class_ 4), (1, u "java/lang/CharSequence"), (42, .class_ 48), (0, u "java/lang/CharSequence$1CodePointIterator"), (10, .class_ 60), (0, u "java/lang/CharSequence$1CharIterator"), (5, .class_ 67), (0, u "java/lang/Object")] 63

/-- java/lang/CharSequence -/
def k4 : Class := { plain "java/lang/CharSequence" (some 0) with
  accessFlags := 1537
  interfaces := #[]
  cf := some (fileOf pool4 2 #[.nestMembers #[47, 59]] #[] 1537 66 #[] #[])
  fields := #[]
  methods := #[]
  instanceTypes := #[]
  staticTypes := #[]
  resolved := Array.replicate 131 none
  statics := none }

def pool5 : Array CpInfo := pool [(1, .class_ 2), (0, u "java/lang/constant/Constable"), (0, .class_ 4), (0, u "java/lang/Object")] 6

/-- java/lang/constant/Constable -/
def k5 : Class := { plain "java/lang/constant/Constable" (some 0) with
  accessFlags := 1537
  interfaces := #[]
  cf := some (fileOf pool5 1 #[] #[] 1537 3 #[] #[])
  fields := #[]
  methods := #[]
  instanceTypes := #[]
  staticTypes := #[]
  resolved := Array.replicate 11 none
  statics := none }

def pool6 : Array CpInfo := pool [(1, .class_ 2), (0, u "java/lang/constant/ConstantDesc"), (0, .class_ 4), (0, u "java/lang/Object")] 32

/-- java/lang/constant/ConstantDesc -/
def k6 : Class := { plain "java/lang/constant/ConstantDesc" (some 0) with
  accessFlags := 1537
  interfaces := #[]
  cf := some (fileOf pool6 1 #[] #[] 1537 3 #[] #[])
  fields := #[]
  methods := #[]
  instanceTypes := #[]
  staticTypes := #[]
  resolved := Array.replicate 37 none
  statics := none }

def pool7 : Array CpInfo := pool [(1, .methodref 2 3), (0, .class_ 4), (0, .nameAndType 5 6), (0, u "java/lang/Object"), (0, u "<init>"), (0, u "()V"), (2, .fieldref 10 11), (0, .class_ 12), (0, .nameAndType 13 14), (0, u "java/lang/String"), (0, u "value"), (0, u "[B"), (0, .fieldref 10 16), (0, .nameAndType 17 18), (0, u "coder"), (0, u "B"), (2, u "hash"), (0, u "I"), (2, u "hashIsZero"), (0, u "Z"), (0, .methodref 10 28), (0, .nameAndType 5 29), (0, u "([CIILjava/lang/Void;)V"), (8, .fieldref 10 39), (0, .nameAndType 40 26), (0, u "COMPACT_STRINGS"), (1, .class_ 44), (1, u "java/lang/StringUTF16"), (0, u "compress"), (1, .methodref 42 48), (0, .nameAndType 49 50), (0, u "coderFromArrayLen"), (0, u "([BI)B"), (2, u "toBytes"), (53, .class_ 109), (1, u "java/lang/StringLatin1"), (67, .methodref 42 178), (0, .nameAndType 45 179), (0, u "([CII)[B"), (29, .methodref 10 210), (0, .nameAndType 5 211), (0, u "([BB)V"), (157, u "(C)Z"), (205, .class_ 576), (0, u "java/lang/CharSequence"), (22, u "CASE_INSENSITIVE_ORDER"), (0, u "Ljava/util/Comparator;"), (181, u "valueOf"), (0, u "(C)Ljava/lang/String;"), (226, u "([C)V"), (4, .methodref 107 1016), (0, .nameAndType 1017 369), (0, u "canEncode"), (0, .methodref 107 1019), (0, .nameAndType 53 1020), (0, u "(C)[B"), (80, u "serialPersistentFields"), (0, u "[Ljava/io/ObjectStreamField;"), (0, .class_ 1104), (0, u "java/lang/String$CaseInsensitiveComparator"), (1, .class_ 1107), (0, u "java/io/Serializable"), (0, .class_ 1109), (0, u "java/lang/Comparable"), (0, .class_ 1111), (0, u "java/lang/constant/Constable"), (0, .class_ 1113), (0, u "java/lang/constant/ConstantDesc"), (2, u "serialVersionUID"), (0, u "J"), (3, u "REPL"), (0, u "C"), (2, u "LATIN1"), (1, u "UTF16")] 323

def k7m0 : Method := { name := "<init>", desc := "()V", sig := { parameters := [], returnType := none }, accessFlags := 1, code := none }
def k7c1 : Code := { maxStack := 5, maxLocals := 2, code := jdk_42_method_3_code, exceptionTable := #[], attributes := #[] }
def k7m1 : Method := { name := "<init>", desc := "([C)V", sig := { parameters := [(.array .char)], returnType := none }, accessFlags := 1, code := some k7c1 }
def k7c2 : Code := { maxStack := 4, maxLocals := 1, code := jdk_42_method_139_code, exceptionTable := #[], attributes := #[] }
def k7m2 : Method := { name := "valueOf", desc := "(C)Ljava/lang/String;", sig := { parameters := [.char], returnType := some (.object "java/lang/String") }, accessFlags := 9, code := some k7c2 }
def k7c3 : Code := { maxStack := 4, maxLocals := 6, code := jdk_42_method_149_code, exceptionTable := #[], attributes := #[] }
def k7m3 : Method := { name := "<init>", desc := "([CIILjava/lang/Void;)V", sig := { parameters := [(.array .char), .int, .int, (.object "java/lang/Void")], returnType := none }, accessFlags := 2, code := some k7c3 }
def k7c4 : Code := { maxStack := 2, maxLocals := 3, code := jdk_42_method_151_code, exceptionTable := #[], attributes := #[] }
def k7m4 : Method := { name := "<init>", desc := "([BB)V", sig := { parameters := [(.array .byte), .byte], returnType := none }, accessFlags := 0, code := some k7c4 }
/-- java/lang/String -/
def k7 : Class := { plain "java/lang/String" (some 0) with
  accessFlags := 49
  interfaces := #[2, 3, 4, 5, 6]
  cf := some (fileOf pool7 10 #[.nestMembers #[1103]] #[{ accessFlags := 1, nameIndex := 5, descriptorIndex := 6, attributes := #[] }, { accessFlags := 1, nameIndex := 5, descriptorIndex := 1010, attributes := #[] }, { accessFlags := 9, nameIndex := 782, descriptorIndex := 783, attributes := #[] }, { accessFlags := 2, nameIndex := 5, descriptorIndex := 29, attributes := #[] }, { accessFlags := 0, nameIndex := 5, descriptorIndex := 211, attributes := #[] }] 49 2 #[1106, 1108, 575, 1110, 1112] #[{ accessFlags := 18, nameIndex := 13, descriptorIndex := 14, attributes := #[] }, { accessFlags := 18, nameIndex := 17, descriptorIndex := 18, attributes := #[] }, { accessFlags := 2, nameIndex := 21, descriptorIndex := 22, attributes := #[] }, { accessFlags := 2, nameIndex := 25, descriptorIndex := 26, attributes := #[] }, { accessFlags := 26, nameIndex := 1116, descriptorIndex := 1117, attributes := #[] }, { accessFlags := 24, nameIndex := 40, descriptorIndex := 26, attributes := #[] }, { accessFlags := 26, nameIndex := 1101, descriptorIndex := 1102, attributes := #[] }, { accessFlags := 26, nameIndex := 1121, descriptorIndex := 1122, attributes := #[] }, { accessFlags := 25, nameIndex := 599, descriptorIndex := 600, attributes := #[] }, { accessFlags := 24, nameIndex := 1125, descriptorIndex := 18, attributes := #[] }, { accessFlags := 24, nameIndex := 1127, descriptorIndex := 18, attributes := #[] }])
  fields := #[{ name := "value", type := (.array .byte), accessFlags := 18, slot := 0, constantValue := 0 }, { name := "coder", type := .byte, accessFlags := 18, slot := 1, constantValue := 0 }, { name := "hash", type := .int, accessFlags := 2, slot := 2, constantValue := 0 }, { name := "hashIsZero", type := .boolean, accessFlags := 2, slot := 3, constantValue := 0 }, { name := "serialVersionUID", type := .long, accessFlags := 26, slot := 0, constantValue := 0 }, { name := "COMPACT_STRINGS", type := .boolean, accessFlags := 24, slot := 1, constantValue := 0 }, { name := "serialPersistentFields", type := (.array (.object "java/io/ObjectStreamField")), accessFlags := 26, slot := 2, constantValue := 0 }, { name := "REPL", type := .char, accessFlags := 26, slot := 3, constantValue := 0 }, { name := "CASE_INSENSITIVE_ORDER", type := (.object "java/util/Comparator"), accessFlags := 25, slot := 4, constantValue := 0 }, { name := "LATIN1", type := .byte, accessFlags := 24, slot := 5, constantValue := 0 }, { name := "UTF16", type := .byte, accessFlags := 24, slot := 6, constantValue := 0 }]
  methods := #[k7m0, k7m1, k7m2, k7m3, k7m4]
  instanceTypes := #[(.array .byte), .byte, .int, .boolean]
  staticTypes := #[.long, .boolean, (.array (.object "java/io/ObjectStreamField")), .char, (.object "java/util/Comparator"), .byte, .byte]
  resolved := Array.replicate 1451 none
  statics := some 0 }

def pool8 : Array CpInfo := pool [(6, .class_ 8), (1, u "java/lang/Object"), (0, u "<init>"), (0, u "()V"), (1, .class_ 14), (1, u "java/lang/StringUTF16"), (31, u "$assertionsDisabled"), (0, u "Z"), (13, u "HI_BYTE_SHIFT"), (0, u "I"), (2, u "LO_BYTE_SHIFT"), (49, .methodref 12 116), (0, .nameAndType 117 118), (0, u "compress"), (0, u "([CI[BII)I"), (3, u "([CII)[B"), (138, u "coderFromArrayLen"), (0, u "([BI)B"), (106, .class_ 371), (1, u "java/lang/StringUTF16$LinesSpliterator"), (58, u "MAX_LENGTH"), (196, .class_ 628), (0, u "java/lang/StringUTF16$CodePointsSpliterator"), (0, .class_ 630), (0, u "java/lang/StringUTF16$CharsSpliterator")] 4

def k8m0 : Method := { name := "<init>", desc := "()V", sig := { parameters := [], returnType := none }, accessFlags := 0, code := none }
def k8c1 : Code := { maxStack := 2, maxLocals := 2, code := jdk_52_method_15_code, exceptionTable := #[], attributes := #[] }
def k8m1 : Method := { name := "coderFromArrayLen", desc := "([BI)B", sig := { parameters := [(.array .byte), .int], returnType := some .byte }, accessFlags := 8, code := some k8c1 }
def k8c2 : Code := { maxStack := 5, maxLocals := 6, code := jdk_52_method_16_code, exceptionTable := #[], attributes := #[] }
def k8m2 : Method := { name := "compress", desc := "([CII)[B", sig := { parameters := [(.array .char), .int, .int], returnType := some (.array .byte) }, accessFlags := 9, code := some k8c2 }
def k8c3 : Code := { maxStack := 3, maxLocals := 7, code := jdk_52_method_21_code, exceptionTable := #[], attributes := #[] }
def k8m3 : Method := { name := "compress", desc := "([CI[BII)I", sig := { parameters := [(.array .char), .int, (.array .byte), .int, .int], returnType := some .int }, accessFlags := 9, code := some k8c3 }
/-- java/lang/StringUTF16 -/
def k8 : Class := { plain "java/lang/StringUTF16" (some 0) with
  accessFlags := 48
  interfaces := #[]
  cf := some (fileOf pool8 12 #[.nestMembers #[627, 629, 369]] #[{ accessFlags := 0, nameIndex := 9, descriptorIndex := 10, attributes := #[] }, { accessFlags := 8, nameIndex := 261, descriptorIndex := 262, attributes := #[] }, { accessFlags := 9, nameIndex := 117, descriptorIndex := 122, attributes := #[] }, { accessFlags := 9, nameIndex := 117, descriptorIndex := 118, attributes := #[] }] 48 6 #[] #[{ accessFlags := 26, nameIndex := 61, descriptorIndex := 62, attributes := #[] }, { accessFlags := 26, nameIndex := 65, descriptorIndex := 62, attributes := #[] }, { accessFlags := 24, nameIndex := 430, descriptorIndex := 62, attributes := #[] }, { accessFlags := 4120, nameIndex := 46, descriptorIndex := 47, attributes := #[] }])
  fields := #[{ name := "HI_BYTE_SHIFT", type := .int, accessFlags := 26, slot := 0, constantValue := 0 }, { name := "LO_BYTE_SHIFT", type := .int, accessFlags := 26, slot := 1, constantValue := 0 }, { name := "MAX_LENGTH", type := .int, accessFlags := 24, slot := 2, constantValue := 0 }, { name := "$assertionsDisabled", type := .boolean, accessFlags := 4120, slot := 3, constantValue := 0 }]
  methods := #[k8m0, k8m1, k8m2, k8m3]
  instanceTypes := #[]
  staticTypes := #[.int, .int, .int, .boolean]
  resolved := Array.replicate 635 none
  statics := none }

def pool9 : Array CpInfo := pool [(4, .class_ 6), (1, u "java/lang/Object"), (0, u "<init>"), (0, u "()V"), (5, .class_ 16), (1, u "java/lang/StringLatin1"), (73, u "canEncode"), (14, u "(C)Z"), (15, u "$assertionsDisabled"), (0, u "Z"), (98, .class_ 223), (1, u "java/lang/StringLatin1$LinesSpliterator"), (156, u "toBytes"), (1, u "(C)[B"), (7, .class_ 391), (0, u "java/lang/StringLatin1$CharsSpliterator")] 3

def k9m0 : Method := { name := "<init>", desc := "()V", sig := { parameters := [], returnType := none }, accessFlags := 0, code := none }
def k9c1 : Code := { maxStack := 2, maxLocals := 1, code := jdk_43_method_3_code, exceptionTable := #[], attributes := #[] }
def k9m1 : Method := { name := "canEncode", desc := "(C)Z", sig := { parameters := [.char], returnType := some .boolean }, accessFlags := 9, code := some k9c1 }
def k9c2 : Code := { maxStack := 4, maxLocals := 1, code := jdk_43_method_46_code, exceptionTable := #[], attributes := #[] }
def k9m2 : Method := { name := "toBytes", desc := "(C)[B", sig := { parameters := [.char], returnType := some (.array .byte) }, accessFlags := 9, code := some k9c2 }
/-- java/lang/StringLatin1 -/
def k9 : Class := { plain "java/lang/StringLatin1" (some 0) with
  accessFlags := 48
  interfaces := #[]
  cf := some (fileOf pool9 14 #[.nestMembers #[390, 221]] #[{ accessFlags := 0, nameIndex := 7, descriptorIndex := 8, attributes := #[] }, { accessFlags := 9, nameIndex := 90, descriptorIndex := 105, attributes := #[] }, { accessFlags := 9, nameIndex := 380, descriptorIndex := 382, attributes := #[] }] 48 4 #[] #[{ accessFlags := 4120, nameIndex := 121, descriptorIndex := 122, attributes := #[] }])
  fields := #[{ name := "$assertionsDisabled", type := .boolean, accessFlags := 4120, slot := 0, constantValue := 0 }]
  methods := #[k9m0, k9m1, k9m2]
  instanceTypes := #[]
  staticTypes := #[.boolean]
  resolved := Array.replicate 395 none
  statics := none }

def pool10 : Array CpInfo := pool [(1, .methodref 2 3), (0, .class_ 4), (0, .nameAndType 5 6), (0, u "java/lang/Object"), (0, u "<init>"), (0, u "()V"), (0, .class_ 8), (0, u "java/lang/Record")] 13

def k10c0 : Code := { maxStack := 1, maxLocals := 1, code := jdk_30_method_1_code, exceptionTable := #[], attributes := #[] }
def k10m0 : Method := { name := "<init>", desc := "()V", sig := { parameters := [], returnType := none }, accessFlags := 4, code := some k10c0 }
/-- java/lang/Record -/
def k10 : Class := { plain "java/lang/Record" (some 0) with
  accessFlags := 1057
  interfaces := #[]
  cf := some (fileOf pool10 7 #[] #[{ accessFlags := 4, nameIndex := 5, descriptorIndex := 6, attributes := #[] }] 1057 2 #[] #[])
  fields := #[]
  methods := #[k10m0]
  instanceTypes := #[]
  staticTypes := #[]
  resolved := Array.replicate 22 none
  statics := none }

def pool11 : Array CpInfo := pool [(1, .methodref 2 3), (0, .class_ 4), (0, .nameAndType 5 6), (0, u "java/lang/Record"), (0, u "<init>"), (0, u "()V"), (0, .fieldref 8 9), (0, .class_ 10), (0, .nameAndType 11 12), (0, u "com/example/object_access_rules/objectaccessrules/service/HttpRequest"), (0, u "method"), (0, u "Ljava/lang/String;"), (0, .fieldref 8 14), (0, .nameAndType 15 12), (0, u "path"), (0, .fieldref 8 17), (0, .nameAndType 18 12), (0, u "host"), (0, .fieldref 8 20), (0, .nameAndType 21 22), (0, u "contentLength"), (0, u "J"), (0, .fieldref 8 24), (0, .nameAndType 25 26), (0, u "chunked"), (0, u "Z"), (0, .fieldref 8 28), (0, .nameAndType 29 26), (0, u "keepAlive"), (0, .fieldref 8 31), (0, .nameAndType 32 26), (0, u "expectsContinue"), (12, u "(Ljava/lang/String;Ljava/lang/String;Ljava/lang/String;JZZZ)V"), (3, u "hasBody"), (0, u "()Z")] 31

def k11c0 : Code := { maxStack := 3, maxLocals := 9, code := prog_113_method_1_code, exceptionTable := #[], attributes := #[] }
def k11m0 : Method := { name := "<init>", desc := "(Ljava/lang/String;Ljava/lang/String;Ljava/lang/String;JZZZ)V", sig := { parameters := [(.object "java/lang/String"), (.object "java/lang/String"), (.object "java/lang/String"), .long, .boolean, .boolean, .boolean], returnType := none }, accessFlags := 0, code := some k11c0 }
def k11c1 : Code := { maxStack := 4, maxLocals := 1, code := prog_113_method_2_code, exceptionTable := #[], attributes := #[] }
def k11m1 : Method := { name := "hasBody", desc := "()Z", sig := { parameters := [], returnType := some .boolean }, accessFlags := 0, code := some k11c1 }
/-- com/example/object_access_rules/objectaccessrules/service/HttpRequest -/
def k11 : Class := { plain "com/example/object_access_rules/objectaccessrules/service/HttpRequest" (some 10) with
  accessFlags := 48
  interfaces := #[]
  cf := some (fileOf pool11 8 #[] #[{ accessFlags := 0, nameIndex := 5, descriptorIndex := 45, attributes := #[] }, { accessFlags := 0, nameIndex := 49, descriptorIndex := 50, attributes := #[] }] 48 2 #[] #[{ accessFlags := 18, nameIndex := 11, descriptorIndex := 12, attributes := #[] }, { accessFlags := 18, nameIndex := 15, descriptorIndex := 12, attributes := #[] }, { accessFlags := 18, nameIndex := 18, descriptorIndex := 12, attributes := #[] }, { accessFlags := 18, nameIndex := 21, descriptorIndex := 22, attributes := #[] }, { accessFlags := 18, nameIndex := 25, descriptorIndex := 26, attributes := #[] }, { accessFlags := 18, nameIndex := 29, descriptorIndex := 26, attributes := #[] }, { accessFlags := 18, nameIndex := 32, descriptorIndex := 26, attributes := #[] }])
  fields := #[{ name := "method", type := (.object "java/lang/String"), accessFlags := 18, slot := 0, constantValue := 0 }, { name := "path", type := (.object "java/lang/String"), accessFlags := 18, slot := 1, constantValue := 0 }, { name := "host", type := (.object "java/lang/String"), accessFlags := 18, slot := 2, constantValue := 0 }, { name := "contentLength", type := .long, accessFlags := 18, slot := 3, constantValue := 0 }, { name := "chunked", type := .boolean, accessFlags := 18, slot := 4, constantValue := 0 }, { name := "keepAlive", type := .boolean, accessFlags := 18, slot := 5, constantValue := 0 }, { name := "expectsContinue", type := .boolean, accessFlags := 18, slot := 6, constantValue := 0 }]
  methods := #[k11m0, k11m1]
  instanceTypes := #[(.object "java/lang/String"), (.object "java/lang/String"), (.object "java/lang/String"), .long, .boolean, .boolean, .boolean]
  staticTypes := #[]
  resolved := Array.replicate 82 none
  statics := none }

def pool12 : Array CpInfo := pool [(2, .class_ 4), (1, u "java/lang/Object"), (0, u "<init>"), (0, u "()V"), (17, .class_ 26), (1, u "jdk/internal/util/Preconditions"), (28, .class_ 56), (0, u "jdk/internal/util/Preconditions$4"), (57, .class_ 115), (0, u "jdk/internal/util/Preconditions$1"), (7, u "SIOOBE_FORMATTER"), (0, u "Ljava/util/function/BiFunction;"), (0, .class_ 126), (0, u "jdk/internal/util/Preconditions$2"), (3, u "AIOOBE_FORMATTER"), (0, .class_ 132), (0, u "jdk/internal/util/Preconditions$3"), (3, u "IOOBE_FORMATTER")] 57

def k12m0 : Method := { name := "<init>", desc := "()V", sig := { parameters := [], returnType := none }, accessFlags := 1, code := none }
/-- jdk/internal/util/Preconditions -/
def k12 : Class := { plain "jdk/internal/util/Preconditions" (some 0) with
  accessFlags := 33
  interfaces := #[]
  cf := some (fileOf pool12 24 #[.nestMembers #[55, 131, 125, 114]] #[{ accessFlags := 1, nameIndex := 5, descriptorIndex := 6, attributes := #[] }] 33 2 #[] #[{ accessFlags := 25, nameIndex := 123, descriptorIndex := 124, attributes := #[] }, { accessFlags := 25, nameIndex := 130, descriptorIndex := 124, attributes := #[] }, { accessFlags := 25, nameIndex := 136, descriptorIndex := 124, attributes := #[] }])
  fields := #[{ name := "SIOOBE_FORMATTER", type := (.object "java/util/function/BiFunction"), accessFlags := 25, slot := 0, constantValue := 0 }, { name := "AIOOBE_FORMATTER", type := (.object "java/util/function/BiFunction"), accessFlags := 25, slot := 1, constantValue := 0 }, { name := "IOOBE_FORMATTER", type := (.object "java/util/function/BiFunction"), accessFlags := 25, slot := 2, constantValue := 0 }]
  methods := #[k12m0]
  instanceTypes := #[]
  staticTypes := #[(.object "java/util/function/BiFunction"), (.object "java/util/function/BiFunction"), (.object "java/util/function/BiFunction")]
  resolved := Array.replicate 194 none
  statics := some 1 }

def pool13 : Array CpInfo := pool [(9, u "<init>"), (6, .class_ 18), (1, u "java/lang/Object"), (0, u "()V"), (1, .class_ 23), (1, u "jdk/internal/util/ArraysSupport"), (0, u "LOG2_ARRAY_LONG_INDEX_SCALE"), (0, u "I"), (2, u "U"), (0, u "Ljdk/internal/misc/Unsafe;"), (8, u "BIG_ENDIAN"), (0, u "Z"), (8, u "LOG2_BYTE_BIT_SIZE"), (4, u "LOG2_ARRAY_INT_INDEX_SCALE"), (54, u "JLA"), (0, u "Ljdk/internal/access/JavaLangAccess;"), (11, u "LOG2_ARRAY_BOOLEAN_INDEX_SCALE"), (9, u "LOG2_ARRAY_BYTE_INDEX_SCALE"), (5, u "LOG2_ARRAY_CHAR_INDEX_SCALE"), (5, u "LOG2_ARRAY_SHORT_INDEX_SCALE"), (18, u "LOG2_ARRAY_FLOAT_INDEX_SCALE"), (24, u "LOG2_ARRAY_DOUBLE_INDEX_SCALE"), (89, u "T_BOOLEAN"), (2, u "T_CHAR"), (1, u "T_FLOAT"), (1, u "T_DOUBLE"), (1, u "T_BYTE"), (1, u "T_SHORT"), (1, u "T_INT"), (1, u "T_LONG"), (1, u "SOFT_MAX_ARRAY_LENGTH")] 83

def k13m0 : Method := { name := "<init>", desc := "()V", sig := { parameters := [], returnType := none }, accessFlags := 2, code := none }
/-- jdk/internal/util/ArraysSupport -/
def k13 : Class := { plain "jdk/internal/util/ArraysSupport" (some 0) with
  accessFlags := 33
  interfaces := #[]
  cf := some (fileOf pool13 21 #[] #[{ accessFlags := 2, nameIndex := 9, descriptorIndex := 19, attributes := #[] }] 33 16 #[] #[{ accessFlags := 24, nameIndex := 28, descriptorIndex := 29, attributes := #[] }, { accessFlags := 26, nameIndex := 38, descriptorIndex := 39, attributes := #[] }, { accessFlags := 25, nameIndex := 121, descriptorIndex := 25, attributes := #[] }, { accessFlags := 25, nameIndex := 131, descriptorIndex := 25, attributes := #[] }, { accessFlags := 25, nameIndex := 137, descriptorIndex := 25, attributes := #[] }, { accessFlags := 25, nameIndex := 143, descriptorIndex := 25, attributes := #[] }, { accessFlags := 25, nameIndex := 53, descriptorIndex := 25, attributes := #[] }, { accessFlags := 25, nameIndex := 24, descriptorIndex := 25, attributes := #[] }, { accessFlags := 25, nameIndex := 162, descriptorIndex := 25, attributes := #[] }, { accessFlags := 25, nameIndex := 187, descriptorIndex := 25, attributes := #[] }, { accessFlags := 26, nameIndex := 48, descriptorIndex := 25, attributes := #[] }, { accessFlags := 25, nameIndex := 277, descriptorIndex := 25, attributes := #[] }, { accessFlags := 25, nameIndex := 280, descriptorIndex := 25, attributes := #[] }, { accessFlags := 25, nameIndex := 282, descriptorIndex := 25, attributes := #[] }, { accessFlags := 25, nameIndex := 284, descriptorIndex := 25, attributes := #[] }, { accessFlags := 25, nameIndex := 286, descriptorIndex := 25, attributes := #[] }, { accessFlags := 25, nameIndex := 288, descriptorIndex := 25, attributes := #[] }, { accessFlags := 25, nameIndex := 290, descriptorIndex := 25, attributes := #[] }, { accessFlags := 25, nameIndex := 292, descriptorIndex := 25, attributes := #[] }, { accessFlags := 26, nameIndex := 108, descriptorIndex := 109, attributes := #[] }, { accessFlags := 25, nameIndex := 294, descriptorIndex := 25, attributes := #[] }])
  fields := #[{ name := "U", type := (.object "jdk/internal/misc/Unsafe"), accessFlags := 24, slot := 0, constantValue := 0 }, { name := "BIG_ENDIAN", type := .boolean, accessFlags := 26, slot := 1, constantValue := 0 }, { name := "LOG2_ARRAY_BOOLEAN_INDEX_SCALE", type := .int, accessFlags := 25, slot := 2, constantValue := 0 }, { name := "LOG2_ARRAY_BYTE_INDEX_SCALE", type := .int, accessFlags := 25, slot := 3, constantValue := 0 }, { name := "LOG2_ARRAY_CHAR_INDEX_SCALE", type := .int, accessFlags := 25, slot := 4, constantValue := 0 }, { name := "LOG2_ARRAY_SHORT_INDEX_SCALE", type := .int, accessFlags := 25, slot := 5, constantValue := 0 }, { name := "LOG2_ARRAY_INT_INDEX_SCALE", type := .int, accessFlags := 25, slot := 6, constantValue := 0 }, { name := "LOG2_ARRAY_LONG_INDEX_SCALE", type := .int, accessFlags := 25, slot := 7, constantValue := 0 }, { name := "LOG2_ARRAY_FLOAT_INDEX_SCALE", type := .int, accessFlags := 25, slot := 8, constantValue := 0 }, { name := "LOG2_ARRAY_DOUBLE_INDEX_SCALE", type := .int, accessFlags := 25, slot := 9, constantValue := 0 }, { name := "LOG2_BYTE_BIT_SIZE", type := .int, accessFlags := 26, slot := 10, constantValue := 0 }, { name := "T_BOOLEAN", type := .int, accessFlags := 25, slot := 11, constantValue := 0 }, { name := "T_CHAR", type := .int, accessFlags := 25, slot := 12, constantValue := 0 }, { name := "T_FLOAT", type := .int, accessFlags := 25, slot := 13, constantValue := 0 }, { name := "T_DOUBLE", type := .int, accessFlags := 25, slot := 14, constantValue := 0 }, { name := "T_BYTE", type := .int, accessFlags := 25, slot := 15, constantValue := 0 }, { name := "T_SHORT", type := .int, accessFlags := 25, slot := 16, constantValue := 0 }, { name := "T_INT", type := .int, accessFlags := 25, slot := 17, constantValue := 0 }, { name := "T_LONG", type := .int, accessFlags := 25, slot := 18, constantValue := 0 }, { name := "JLA", type := (.object "jdk/internal/access/JavaLangAccess"), accessFlags := 26, slot := 19, constantValue := 0 }, { name := "SOFT_MAX_ARRAY_LENGTH", type := .int, accessFlags := 25, slot := 20, constantValue := 0 }]
  methods := #[k13m0]
  instanceTypes := #[]
  staticTypes := #[(.object "jdk/internal/misc/Unsafe"), .boolean, .int, .int, .int, .int, .int, .int, .int, .int, .int, .int, .int, .int, .int, .int, .int, .int, .int, (.object "jdk/internal/access/JavaLangAccess"), .int]
  resolved := Array.replicate 378 none
  statics := none }

def pool14 : Array CpInfo := pool [(1, u "java/lang/Cloneable"), (0, .class_ 1), (0, u "java/lang/Object"), (0, .class_ 3)] 3

/-- java/lang/Cloneable -/
def k14 : Class := { plain "java/lang/Cloneable" (some 0) with
  accessFlags := 1537
  interfaces := #[]
  cf := some (fileOf pool14 2 #[] #[] 1537 4 #[] #[])
  fields := #[]
  methods := #[]
  instanceTypes := #[]
  staticTypes := #[]
  resolved := Array.replicate 8 none
  statics := none }

/-- the primitive byte -/
def k15 : Class := { plain "byte" none with kind := .primitive 'B', accessFlags := 0x411 }
/-- [B -/
def k16 : Class := { plain "[B" (some 0) with kind := .array 15 .byte, interfaces := #[14, 2], accessFlags := 1041 }

/-- the primitive char -/
def k17 : Class := { plain "char" none with kind := .primitive 'C', accessFlags := 0x411 }
/-- [C -/
def k18 : Class := { plain "[C" (some 0) with kind := .array 17 .char, interfaces := #[14, 2], accessFlags := 1041 }

/-- the primitive int -/
def k19 : Class := { plain "int" none with kind := .primitive 'I', accessFlags := 0x411 }
/-- [I -/
def k20 : Class := { plain "[I" (some 0) with kind := .array 19 .int, interfaces := #[14, 2], accessFlags := 1041 }

def heap : Heap := #[{ cls := 7, slots := #[.long 0, .int 1, .null, .int 0, .null, .int 0, .int 0], vm := .statics 7 },
  { cls := 12, slots := #[.null, .null, .null], vm := .statics 12 }]
def classes : Array Class := #[k0, k1, k2, k3, k4, k5, k6, k7, k8, k9, k10, k11, k12, k13, k14, k15, k16, k17, k18, k19, k20]
def interned : List (Array UInt16 × Addr) := []
def slotsUsed : Nat := 10
def theMethod : MethodId := ⟨1, 1⟩
def args0 : Array Value := #[.long 5, .int 1, .int 2, .int 3]
def aboutOver (below : List Frame) : State where
  vm := { classes := classes, interned := interned.toArray }
  heap := heap
  slotsUsed := slotsUsed
  threads := #[{ frames := .invoking theMethod args0 :: below }]
def below0 : List Frame := [.native { method := ⟨0, 0⟩, args := #[] }]
def about1 : State := aboutOver below0
def p0 : Program := .bare "" "" ""
def e0 : Env := launch0.env 0 0 0
theorem w_frames : about1.frames = Frame.invoking theMethod args0 :: below0 := rfl
set_option maxRecDepth 65536 in
theorem w_args : argsFit about1.vm theMethod args0 = true := by decide +kernel
set_option maxRecDepth 65536 in
theorem w_heap : heapFits about1 = true := by decide +kernel
set_option maxRecDepth 65536 in
theorem w_runnable : about1.curStatus? = some .runnable := by decide +kernel
set_option maxRecDepth 65536 in
theorem w_alone : about1.alone = true := by decide +kernel
set_option maxRecDepth 65536 in
theorem w_named : about1.methodNamed? x = some theMethod := by decide +kernel
set_option maxRecDepth 65536 in
theorem w_hears : about1.hears theMethod below0 = true := by decide +kernel
set_option maxRecDepth 65536 in
theorem w_ripe : about1.ripe theMethod args0 below0 = true := by decide +kernel
theorem w_running : about1.status = .running := rfl
set_option maxRecDepth 65536 in
theorem w_room : about1.hasRoom e0.platform room_1 = true :=
  launch0.hasRoom_least _ room_1 (by decide +kernel) (by decide +kernel) (by decide +kernel) (by decide +kernel) (by decide +kernel) (by decide +kernel)
theorem allAtoms_all (ts : List Jvm.Cond) (a : Array Jvm.Value) (st : Jvm.State) : (allAtoms ts).before a st = ts.all (fun c => c.before a st) := by
  induction ts with
  | nil => rfl
  | cons c t ih =>
    show (Jvm.Cond.and c (allAtoms t)).before a st = _
    rw [Jvm.Cond.before_and, ih, List.all_cons]
def words1 : List Jvm.Cond := Jvm.Cond.code x code maxLocals ret :: tables_1
/-- a 'code' word, met by the world's own term for the bytes: nothing is compared byte by byte -/
theorem code_word {y : MethodName} {bytes : ByteArray} {mx : Nat} {rt : Option FieldType} {a : Array Value} {s : State} {m : MethodId} {meth : Method} {c : Code} (h1 : s.methodNamed? y = some m) (h2 : s.vm.method? m = some meth) (h3 : meth.code = some c) (h4 : c.code = bytes)
    (h5 : (c.maxLocals == mx && c.exceptionTable.isEmpty && decide (c.maxStack ≤ mostOperands) && decide (meth.sig.returnType = rt) && !meth.locks && decide (parseMethodDescriptor y.desc = some meth.sig)) = true) : (Jvm.Cond.code y bytes mx rt).before a s = true := by
  simp only [Bool.and_eq_true, beq_iff_eq, Bool.not_eq_true', decide_eq_true_eq] at h5
  obtain ⟨⟨⟨⟨⟨g1, g2⟩, g3⟩, g4⟩, g5⟩, g6⟩ := h5
  simp [Cond.before, Cond.holds, Cond.value, h1, h2, h3, h4, g1, g2, g3, g4, g5, g6]
def isCode : Jvm.Cond → Bool
  | .code _ _ _ _ => true
  | _ => false
theorem all_split {L : List Jvm.Cond} {P : Jvm.Cond → Bool} (h1 : L.all (fun c => isCode c || P c) = true) (h2 : ∀ c ∈ L.filter isCode, P c = true) : L.all P = true := by
  refine List.all_eq_true.mpr fun c hc => ?_
  have h := List.all_eq_true.mp h1 c hc
  rcases Bool.eq_false_or_eq_true (isCode c) with hi | hi
  · exact h2 c (List.mem_filter.mpr ⟨hc, hi⟩)
  · simpa [hi] using h
set_option maxRecDepth 65536 in
theorem w_c0 : (Jvm.Cond.code x code maxLocals ret).before args0 about1 = true := code_word (m := ⟨1, 1⟩) (meth := k1m1) (c := k1c1) (by decide +kernel) rfl rfl rfl (by decide +kernel)
set_option maxRecDepth 65536 in
theorem w_c1 : (Jvm.Cond.code ({ cls := "java/lang/String", name := "<init>", desc := "([C)V" } : Jvm.MethodName) jdk_42_method_3_code (2 : Nat) (Option.none : Option Jvm.ClassFile.FieldType)).before args0 about1 = true := code_word (m := ⟨7, 1⟩) (meth := k7m1) (c := k7c1) (by decide +kernel) rfl rfl rfl (by decide +kernel)
set_option maxRecDepth 65536 in
theorem w_c2 : (Jvm.Cond.code ({ cls := "java/lang/String", name := "<init>", desc := "([CIILjava/lang/Void;)V" } : Jvm.MethodName) jdk_42_method_149_code (6 : Nat) (Option.none : Option Jvm.ClassFile.FieldType)).before args0 about1 = true := code_word (m := ⟨7, 3⟩) (meth := k7m3) (c := k7c3) (by decide +kernel) rfl rfl rfl (by decide +kernel)
set_option maxRecDepth 65536 in
theorem w_c3 : (Jvm.Cond.code ({ cls := "java/lang/Object", name := "<init>", desc := "()V" } : Jvm.MethodName) object_method_1_code (1 : Nat) (Option.none : Option Jvm.ClassFile.FieldType)).before args0 about1 = true := code_word (m := ⟨0, 0⟩) (meth := k0m0) (c := k0c0) (by decide +kernel) rfl rfl rfl (by decide +kernel)
set_option maxRecDepth 65536 in
theorem w_c4 : (Jvm.Cond.code ({ cls := "java/lang/StringUTF16", name := "compress", desc := "([CII)[B" } : Jvm.MethodName) jdk_52_method_16_code (6 : Nat) (Option.some (Jvm.ClassFile.FieldType.array Jvm.ClassFile.FieldType.byte))).before args0 about1 = true := code_word (m := ⟨8, 2⟩) (meth := k8m2) (c := k8c2) (by decide +kernel) rfl rfl rfl (by decide +kernel)
set_option maxRecDepth 65536 in
theorem w_c5 : (Jvm.Cond.code ({ cls := "java/lang/StringUTF16", name := "compress", desc := "([CI[BII)I" } : Jvm.MethodName) jdk_52_method_21_code (7 : Nat) (Option.some Jvm.ClassFile.FieldType.int)).before args0 about1 = true := code_word (m := ⟨8, 3⟩) (meth := k8m3) (c := k8c3) (by decide +kernel) rfl rfl rfl (by decide +kernel)
set_option maxRecDepth 65536 in
theorem w_c6 : (Jvm.Cond.code ({ cls := "java/lang/StringUTF16", name := "coderFromArrayLen", desc := "([BI)B" } : Jvm.MethodName) jdk_52_method_15_code (2 : Nat) (Option.some Jvm.ClassFile.FieldType.byte)).before args0 about1 = true := code_word (m := ⟨8, 1⟩) (meth := k8m1) (c := k8c1) (by decide +kernel) rfl rfl rfl (by decide +kernel)
set_option maxRecDepth 65536 in
theorem w_c7 : (Jvm.Cond.code ({ cls := "java/lang/String", name := "valueOf", desc := "(C)Ljava/lang/String;" } : Jvm.MethodName) jdk_42_method_139_code (1 : Nat) (Option.some (Jvm.ClassFile.FieldType.object "java/lang/String"))).before args0 about1 = true := code_word (m := ⟨7, 2⟩) (meth := k7m2) (c := k7c2) (by decide +kernel) rfl rfl rfl (by decide +kernel)
set_option maxRecDepth 65536 in
theorem w_c8 : (Jvm.Cond.code ({ cls := "java/lang/StringLatin1", name := "canEncode", desc := "(C)Z" } : Jvm.MethodName) jdk_43_method_3_code (1 : Nat) (Option.some Jvm.ClassFile.FieldType.boolean)).before args0 about1 = true := code_word (m := ⟨9, 1⟩) (meth := k9m1) (c := k9c1) (by decide +kernel) rfl rfl rfl (by decide +kernel)
set_option maxRecDepth 65536 in
theorem w_c9 : (Jvm.Cond.code ({ cls := "java/lang/StringLatin1", name := "toBytes", desc := "(C)[B" } : Jvm.MethodName) jdk_43_method_46_code (1 : Nat) (Option.some (Jvm.ClassFile.FieldType.array Jvm.ClassFile.FieldType.byte))).before args0 about1 = true := code_word (m := ⟨9, 2⟩) (meth := k9m2) (c := k9c2) (by decide +kernel) rfl rfl rfl (by decide +kernel)
set_option maxRecDepth 65536 in
theorem w_c10 : (Jvm.Cond.code ({ cls := "java/lang/String", name := "<init>", desc := "([BB)V" } : Jvm.MethodName) jdk_42_method_151_code (3 : Nat) (Option.none : Option Jvm.ClassFile.FieldType)).before args0 about1 = true := code_word (m := ⟨7, 4⟩) (meth := k7m4) (c := k7c4) (by decide +kernel) rfl rfl rfl (by decide +kernel)
set_option maxRecDepth 65536 in
theorem w_c11 : (Jvm.Cond.code ({ cls := "com/example/object_access_rules/objectaccessrules/service/HttpRequest", name := "<init>", desc := "(Ljava/lang/String;Ljava/lang/String;Ljava/lang/String;JZZZ)V" } : Jvm.MethodName) prog_113_method_1_code (9 : Nat) (Option.none : Option Jvm.ClassFile.FieldType)).before args0 about1 = true := code_word (m := ⟨11, 0⟩) (meth := k11m0) (c := k11c0) (by decide +kernel) rfl rfl rfl (by decide +kernel)
set_option maxRecDepth 65536 in
theorem w_c12 : (Jvm.Cond.code ({ cls := "java/lang/Record", name := "<init>", desc := "()V" } : Jvm.MethodName) jdk_30_method_1_code (1 : Nat) (Option.none : Option Jvm.ClassFile.FieldType)).before args0 about1 = true := code_word (m := ⟨10, 0⟩) (meth := k10m0) (c := k10c0) (by decide +kernel) rfl rfl rfl (by decide +kernel)
set_option maxRecDepth 65536 in
theorem w_c13 : (Jvm.Cond.code ({ cls := "com/example/object_access_rules/objectaccessrules/service/HttpRequest", name := "hasBody", desc := "()Z" } : Jvm.MethodName) prog_113_method_2_code (1 : Nat) (Option.some Jvm.ClassFile.FieldType.boolean)).before args0 about1 = true := code_word (m := ⟨11, 1⟩) (meth := k11m1) (c := k11c1) (by decide +kernel) rfl rfl rfl (by decide +kernel)
def codes1 : List Jvm.Cond := [Jvm.Cond.code x code maxLocals ret, Jvm.Cond.code ({ cls := "java/lang/String", name := "<init>", desc := "([C)V" } : Jvm.MethodName) jdk_42_method_3_code (2 : Nat) (Option.none : Option Jvm.ClassFile.FieldType), Jvm.Cond.code ({ cls := "java/lang/String", name := "<init>", desc := "([CIILjava/lang/Void;)V" } : Jvm.MethodName) jdk_42_method_149_code (6 : Nat) (Option.none : Option Jvm.ClassFile.FieldType), Jvm.Cond.code ({ cls := "java/lang/Object", name := "<init>", desc := "()V" } : Jvm.MethodName) object_method_1_code (1 : Nat) (Option.none : Option Jvm.ClassFile.FieldType), Jvm.Cond.code ({ cls := "java/lang/StringUTF16", name := "compress", desc := "([CII)[B" } : Jvm.MethodName) jdk_52_method_16_code (6 : Nat) (Option.some (Jvm.ClassFile.FieldType.array Jvm.ClassFile.FieldType.byte)), Jvm.Cond.code ({ cls := "java/lang/StringUTF16", name := "compress", desc := "([CI[BII)I" } : Jvm.MethodName) jdk_52_method_21_code (7 : Nat) (Option.some Jvm.ClassFile.FieldType.int), Jvm.Cond.code ({ cls := "java/lang/StringUTF16", name := "coderFromArrayLen", desc := "([BI)B" } : Jvm.MethodName) jdk_52_method_15_code (2 : Nat) (Option.some Jvm.ClassFile.FieldType.byte), Jvm.Cond.code ({ cls := "java/lang/String", name := "valueOf", desc := "(C)Ljava/lang/String;" } : Jvm.MethodName) jdk_42_method_139_code (1 : Nat) (Option.some (Jvm.ClassFile.FieldType.object "java/lang/String")), Jvm.Cond.code ({ cls := "java/lang/StringLatin1", name := "canEncode", desc := "(C)Z" } : Jvm.MethodName) jdk_43_method_3_code (1 : Nat) (Option.some Jvm.ClassFile.FieldType.boolean), Jvm.Cond.code ({ cls := "java/lang/StringLatin1", name := "toBytes", desc := "(C)[B" } : Jvm.MethodName) jdk_43_method_46_code (1 : Nat) (Option.some (Jvm.ClassFile.FieldType.array Jvm.ClassFile.FieldType.byte)), Jvm.Cond.code ({ cls := "java/lang/String", name := "<init>", desc := "([BB)V" } : Jvm.MethodName) jdk_42_method_151_code (3 : Nat) (Option.none : Option Jvm.ClassFile.FieldType), Jvm.Cond.code ({ cls := "com/example/object_access_rules/objectaccessrules/service/HttpRequest", name := "<init>", desc := "(Ljava/lang/String;Ljava/lang/String;Ljava/lang/String;JZZZ)V" } : Jvm.MethodName) prog_113_method_1_code (9 : Nat) (Option.none : Option Jvm.ClassFile.FieldType), Jvm.Cond.code ({ cls := "java/lang/Record", name := "<init>", desc := "()V" } : Jvm.MethodName) jdk_30_method_1_code (1 : Nat) (Option.none : Option Jvm.ClassFile.FieldType), Jvm.Cond.code ({ cls := "com/example/object_access_rules/objectaccessrules/service/HttpRequest", name := "hasBody", desc := "()Z" } : Jvm.MethodName) prog_113_method_2_code (1 : Nat) (Option.some Jvm.ClassFile.FieldType.boolean)]
set_option maxRecDepth 65536 in
theorem codes_eq : words1.filter isCode = codes1 := rfl
theorem w_codes : ∀ c ∈ words1.filter isCode, c.before args0 about1 = true := by
  rw [codes_eq]
  intro c hc
  simp only [codes1, List.mem_cons, List.not_mem_nil, or_false] at hc
  rcases hc with rfl | rfl | rfl | rfl | rfl | rfl | rfl | rfl | rfl | rfl | rfl | rfl | rfl | rfl
  · exact w_c0
  · exact w_c1
  · exact w_c2
  · exact w_c3
  · exact w_c4
  · exact w_c5
  · exact w_c6
  · exact w_c7
  · exact w_c8
  · exact w_c9
  · exact w_c10
  · exact w_c11
  · exact w_c12
  · exact w_c13
set_option maxRecDepth 65536 in
theorem w_t1 : (words1.take 24).all (fun c => isCode c || c.before args0 about1) = true := by decide +kernel
set_option maxRecDepth 65536 in
theorem w_t2 : ((words1.drop 24).take 24).all (fun c => isCode c || c.before args0 about1) = true := by decide +kernel
set_option maxRecDepth 65536 in
theorem w_t3 : (((words1.drop 24).drop 24).take 24).all (fun c => isCode c || c.before args0 about1) = true := by decide +kernel
set_option maxRecDepth 65536 in
theorem w_t4 : (((words1.drop 24).drop 24).drop 24).all (fun c => isCode c || c.before args0 about1) = true := by decide +kernel
theorem w_tables : (allAtoms (Jvm.Cond.code x code maxLocals ret :: tables_1)).before args0 about1 = true := by
  rw [allAtoms_all]
  show words1.all (fun c => c.before args0 about1) = true
  refine all_split ?_ w_codes
  rw [← List.take_append_drop 24 words1, List.all_append, w_t1, ← List.take_append_drop 24 (words1.drop 24), List.all_append, w_t2, ← List.take_append_drop 24 ((words1.drop 24).drop 24), List.all_append, w_t3, w_t4]
  rfl
set_option maxRecDepth 65536 in
theorem w_rest : rest_1_c.before args0 about1 = true := by decide +kernel
set_option maxRecDepth 65536 in
theorem w_case : (Jvm.Cond.and given_1 narrow_1).before args0 about1 = true := by decide +kernel
theorem w_applies : (headSpec (Jvm.Cond.code x code maxLocals ret :: tables_1) room_1).applies x e0.platform about1 = true :=
  (Spec.applies_iff w_frames).mpr ⟨w_running, w_runnable, w_alone, w_named, w_hears, w_ripe, w_room, w_tables⟩
theorem atStart : AtStart classFile x code maxLocals ret World_1 tables_1 room_1 Calls_1 rest_1 Pre_1 launch0 p0 e0 about1 theMethod args0 below0 :=
  ⟨lists_1, trivial, launch0.admits_env _ _ _, launch0.least_env, fairChoices_fair.cas, fairChoices_fair.clock, w_frames, w_args, w_heap, w_applies, trivial, w_rest, w_case⟩
end start1
theorem witness_1 : WitnessClaimed_1 := ⟨start1.p0, start1.e0, start1.about1, start1.theMethod, start1.args0, start1.below0, start1.atStart⟩
end Jvm.Pilot.@@N@@
