import JvmDerived
import JvmDerived.Pilot.@@N@@Statement
import JvmDerived.Pilot.@@N@@Code
set_option linter.unusedVariables false
set_option linter.unusedSimpArgs false
/- laws to paste: Road.backV (cut by pick.py; bodies as the Statement names them) -/
namespace Jvm.Pilot.@@N@@
namespace StrChars
open Jvm Sem ClassFile Op Lib Jvm.Stand Jvm.Free.XT Jvm.Free.ALB Jvm.Free.JM Jvm.Free
open Jvm.Lib.Cold (StaticIs)
/-- a char array whose places are chars -/
def Ch (a : Addr) (A : Cell) (U : State) : Prop := Arr .char a A U ∧ Typed .char A
theorem Ch.mv {a : Addr} {A : Cell} {U U' : State} (h : Ch a A U) (hal : U.vm.Alike U'.vm) (hh : U'.heap = U.heap) : Ch a A U' := ⟨h.1.mv hal hh, h.2⟩
theorem Ch.keep {a : Addr} {A : Cell} {U U' : State} (h : Ch a A U) (hal : U.vm.Alike U'.vm) (hk : U'.heap[a]? = some A) : Ch a A U' := ⟨h.1.keep hal hk, h.2⟩
/-- what place i of a char[]'s cell holds -/
def cv (A : Cell) (i : Nat) : Int32 := match A.slots[i]? with | some (.int x) => x | _ => 0
theorem Ch.get {a : Addr} {A : Cell} {U : State} (h : Ch a A U) {i : Nat} (hi : i < A.slots.size) : A.slots[i]? = some (.int (cv A i)) := by
  have e := Array.getElem?_eq_getElem hi
  have f := h.2 i _ e
  unfold cv; rw [e]
  generalize A.slots[i] = v at f
  cases v <;> simp [fits] at f ⊢
/-- the byte that i2b leaves of a char -/
def lo8 (x : Int32) : Int32 := x.toInt8.toInt32
theorem fits_lo8 (y : Int32) : fits .byte (.int (lo8 y)) = true := by
  have h1 := y.toInt8.le_toInt
  have h2 := y.toInt8.toInt_lt
  simp only [lo8, fits, Bool.and_eq_true, decide_eq_true_eq, Int32.le_iff_toInt_le, Int8.toInt_toInt32, show (-128 : Int32).toInt = -128 from by decide, show (127 : Int32).toInt = 127 from by decide]
  omega
/-- A' is A but that each place j of lo .. hi - 1 holds f j -/
def Laid (A A' : Cell) (lo hi : Nat) (f : Nat → Value) : Prop := A'.cls = A.cls ∧ A'.vm = A.vm ∧ A'.slots.size = A.slots.size ∧ ∀ i, A'.slots[i]? = if lo ≤ i ∧ i < hi then some (f i) else A.slots[i]?
theorem Laid.zero (A : Cell) (lo : Nat) (f : Nat → Value) : Laid A A lo (lo + 0) f := ⟨rfl, rfl, rfl, fun i => by rw [if_neg (by omega)]⟩
theorem Laid.step {A Ak : Cell} {lo k : Nat} {f : Nat → Value} {v : Value} (h : Laid A Ak lo k f) (hlo : lo ≤ k) (hk : k < Ak.slots.size) (hv : v = f k) : Laid A (Ak.setSlot k v) lo (k + 1) f := by
  refine ⟨h.1, h.2.1, by simpa [Cell.setSlot] using h.2.2.1, fun i => ?_⟩
  by_cases e : k = i
  · subst e; rw [Cell.slots_setSlot_self v hk, if_pos (by omega), hv]
  · rw [Cell.slots_setSlot_ne v e, h.2.2.2 i]
    by_cases q : lo ≤ i ∧ i < k
    · rw [if_pos q, if_pos (by omega)]
    · rw [if_neg q, if_neg (by omega)]
def U16 : String := "java/lang/StringUTF16"
namespace Cmp5
def yN : MethodName := ⟨"java/lang/StringUTF16", "compress", "([CI[BII)I"⟩
abbrev yB : ByteArray := jdk_52_method_21_code
theorem d0 : decode yB 0 = .ok (.iconst 0, 1) := by decide +kernel
theorem d1 : decode yB 1 = .ok (.istore 5, 2) := by decide +kernel
theorem d3 : decode yB 3 = .ok (.iload 5, 2) := by decide +kernel
theorem d5 : decode yB 5 = .ok (.iload 4, 2) := by decide +kernel
theorem d7 : decode yB 7 = .ok (.if_icmp (.ge) 37, 3) := by decide +kernel
theorem d10 : decode yB 10 = .ok (.aload_n 0, 1) := by decide +kernel
theorem d11 : decode yB 11 = .ok (.iload_n 1, 1) := by decide +kernel
theorem d12 : decode yB 12 = .ok (.caload, 1) := by decide +kernel
theorem d13 : decode yB 13 = .ok (.istore 6, 2) := by decide +kernel
theorem d15 : decode yB 15 = .ok (.iload 6, 2) := by decide +kernel
theorem d17 : decode yB 17 = .ok (.sipush 255, 3) := by decide +kernel
theorem d20 : decode yB 20 = .ok (.if_icmp (.le) 6, 3) := by decide +kernel
theorem d26 : decode yB 26 = .ok (.aload_n 2, 1) := by decide +kernel
theorem d27 : decode yB 27 = .ok (.iload_n 3, 1) := by decide +kernel
theorem d28 : decode yB 28 = .ok (.iload 6, 2) := by decide +kernel
theorem d30 : decode yB 30 = .ok (.i2b, 1) := by decide +kernel
theorem d31 : decode yB 31 = .ok (.bastore, 1) := by decide +kernel
theorem d32 : decode yB 32 = .ok (.iinc 1 1, 3) := by decide +kernel
theorem d35 : decode yB 35 = .ok (.iinc 3 1, 3) := by decide +kernel
theorem d38 : decode yB 38 = .ok (.iinc 5 1, 3) := by decide +kernel
theorem d41 : decode yB 41 = .ok (.goto (-38), 3) := by decide +kernel
theorem d44 : decode yB 44 = .ok (.iload 4, 2) := by decide +kernel
theorem d46 : decode yB 46 = .ok (.ireturn, 1) := by decide +kernel
def site : List Cond := []
def tab : Cond := tabOf yN yB 7 (some .int) site
def P (b : Addr) (A : Cell) (d : Addr) (B : Cell) (o q len : Nat) (args : Array Value) (s : State) : Prop := args = #[.ref b, .int (Int32.ofNat o), .ref d, .int (Int32.ofNat q), .int (Int32.ofNat len)] ∧ Ch b A s ∧ Arr .byte d B s ∧ b ≠ d ∧ o + len ≤ A.slots.size ∧ q + len ≤ B.slots.size ∧ ∀ i, i < len → ¬ 255 < cv A (o + i)
def E (b : Addr) (A : Cell) (d : Addr) (B : Cell) (o q len : Nat) (r : Option Value) (s u : State) : Prop := r = some (.int (Int32.ofNat len)) ∧ ∃ B', Put d B' s u ∧ Laid B B' q (q + len) (fun j => Value.int (lo8 (cv A (o + (j - q)))))
/-- no char of the range above 255: len; the places written hold each char's low byte -/
theorem law (l : Launch) (b : Addr) (A : Cell) (d : Addr) (B : Cell) (o q len : Nat) : Law l yN 5 5 0 0 yB 7 (some .int) site (P b A d B o q len) (E b A d B o q len) (copyLocs d q len) 0 0 := by
  refine Law.of_walk (plainFor_of_name (by decide +kernel)) (by decide +kernel) (by decide +kernel) (by decide) (fun _ _ h => by rw [h.1]; rfl) (fun _ U U' hal hh h => ⟨h.1, h.2.1.mv hal hh, h.2.2.1.mv hal hh, h.2.2.2⟩) (fun r U U' V V' h1 hal h2 h => ⟨h.1, h.2.elim fun B' q => ⟨B', q.1.mv h1 h2, q.2⟩⟩) ?_
  intro p e s m args below meth c s₁ X0 hexec hbytes hml hret hlk hnm hown hh0 W hP
  obtain ⟨rfl, hA, hB, hne, l1, l2, hp⟩ := hP
  have c1 : Steps p.tables e below (s₁.setTop (entryFrame m #[.ref b, .int (Int32.ofNat o), .ref d, .int (Int32.ofNat q), .int (Int32.ofNat len)] 7)) (s₁.setTop (mkF m 0 #[.val (.ref b), .val (.int (Int32.ofNat o)), .val (.ref d), .val (.int (Int32.ofNat q)), .val (.int (Int32.ofNat len)), .unset, .unset] [])) := entry rfl
  have hA0 := hA.1.mv X0.warmed.alike hh0
  have hB0 := hB.mv X0.warmed.alike hh0
  have a31 := hA.1.2.2.2
  have c2 : Steps p.tables e below (s₁.setTop (entryFrame m #[.ref b, .int (Int32.ofNat o), .ref d, .int (Int32.ofNat q), .int (Int32.ofNat len)] 7)) (s₁.setTop (mkF m 3 #[.val (.ref b), .val (.int (Int32.ofNat o)), .val (.ref d), .val (.int (Int32.ofNat q)), .val (.int (Int32.ofNat len)), .val (.int 0), .unset] [])) := c1.trans (by
    refine iconstV X0.here hexec rfl 0 (hb hbytes d0) (by decide) ?_
    refine XS.istore X0.here hexec rfl (hb hbytes d1) rfl rfl ?_
    exact Steps.refl _)
  have loop : ∀ (r i : Nat), i + r = len → ∀ (z : Slot), (z = .unset ∨ ∃ w, z = .val w ∧ w.category = 1) → ∀ (Tl : State) (Bk : Cell), Stand p l e { frames := 0, locals := 0, cells := 0, slots := 0 } s m #[.ref b, .int (Int32.ofNat o), .ref d, .int (Int32.ofNat q), .int (Int32.ofNat len)] below meth c Tl ([] ++ copyLocs d q i) 0 0 → Put d Bk s₁ Tl → Laid B Bk q (q + i) (fun j => Value.int (lo8 (cv A (o + (j - q))))) →
      Steps p.tables e below (s₁.setTop (entryFrame m #[.ref b, .int (Int32.ofNat o), .ref d, .int (Int32.ofNat q), .int (Int32.ofNat len)] 7)) (Tl.setTop (mkF m 3 #[.val (.ref b), .val (.int (Int32.ofNat (o + i))), .val (.ref d), .val (.int (Int32.ofNat (q + i))), .val (.int (Int32.ofNat len)), .val (.int (Int32.ofNat i)), z] [])) → ∃ (T' : State) (B' : Cell) (z' : Slot), Stand p l e { frames := 0, locals := 0, cells := 0, slots := 0 } s m #[.ref b, .int (Int32.ofNat o), .ref d, .int (Int32.ofNat q), .int (Int32.ofNat len)] below meth c T' ([] ++ copyLocs d q len) 0 0 ∧ Put d B' s₁ T' ∧ Laid B B' q (q + len) (fun j => Value.int (lo8 (cv A (o + (j - q))))) ∧
      Steps p.tables e below (s₁.setTop (entryFrame m #[.ref b, .int (Int32.ofNat o), .ref d, .int (Int32.ofNat q), .int (Int32.ofNat len)] 7)) (T'.setTop (mkF m 3 #[.val (.ref b), .val (.int (Int32.ofNat (o + len))), .val (.ref d), .val (.int (Int32.ofNat (q + len))), .val (.int (Int32.ofNat len)), .val (.int (Int32.ofNat len)), z'] [])) := by
    intro r
    induction r with
    | zero =>
      intro i hi z hz Tl Bk Xl pl fl cl
      have hil : i = len := by omega
      rw [hil] at Xl fl cl
      exact ⟨Tl, Bk, z, Xl, pl, fl, cl⟩
    | succ r ih =>
      intro i hi z hz Tl Bk Xl pl fl cl
      have all := X0.warmed.alike.symm.trans Xl.warmed.alike
      have hAl := hA0.keep all (pl.other hne hA0.1)
      have hBk := hB0.like all pl.1 fl.1 fl.2.1 fl.2.2.1
      have hlt : q + i < Bk.slots.size := by rw [fl.2.2.1]; omega
      have c3 : Steps p.tables e below (s₁.setTop (entryFrame m #[.ref b, .int (Int32.ofNat o), .ref d, .int (Int32.ofNat q), .int (Int32.ofNat len)] 7)) (Tl.setTop (mkF m 12 #[.val (.ref b), .val (.int (Int32.ofNat (o + i))), .val (.ref d), .val (.int (Int32.ofNat (q + i))), .val (.int (Int32.ofNat len)), .val (.int (Int32.ofNat i)), z] [.int (Int32.ofNat (o + i)), .ref b])) := cl.trans (by
        refine XS.iload Xl.here hexec rfl (hb hbytes d3) rfl ?_
        refine XS.iload Xl.here hexec rfl (hb hbytes d5) rfl ?_
        refine XS.icmpNo Xl.here hexec rfl (hb hbytes d7) rfl (ii_ge_f (lt32 (by omega) (by omega))) ?_
        refine XS.aloadN Xl.here hexec rfl (hb hbytes d10) rfl rfl ?_
        refine XS.iloadN Xl.here hexec rfl (hb hbytes d11) rfl ?_
        exact Steps.refl _)
      have c4 : Steps p.tables e below (s₁.setTop (entryFrame m #[.ref b, .int (Int32.ofNat o), .ref d, .int (Int32.ofNat q), .int (Int32.ofNat len)] 7)) (Tl.setTop (mkF m 13 #[.val (.ref b), .val (.int (Int32.ofNat (o + i))), .val (.ref d), .val (.int (Int32.ofNat (q + i))), .val (.int (Int32.ofNat len)), .val (.int (Int32.ofNat i)), z] [.int (cv A (o + i))])) := c3.trans (by
        refine Xl.aget hexec hAl rfl (hA.get (i := o + i) (by omega)) rfl rfl (hb hbytes d12) ?_
        exact Steps.refl _)
      have c5 : Steps p.tables e below (s₁.setTop (entryFrame m #[.ref b, .int (Int32.ofNat o), .ref d, .int (Int32.ofNat q), .int (Int32.ofNat len)] 7)) (Tl.setTop (mkF m 15 #[.val (.ref b), .val (.int (Int32.ofNat (o + i))), .val (.ref d), .val (.int (Int32.ofNat (q + i))), .val (.int (Int32.ofNat len)), .val (.int (Int32.ofNat i)), .val (.int (cv A (o + i)))] [])) := c4.trans (by
        refine XS.istoreS Xl.here hexec rfl (hb hbytes d13) rfl rfl hz ?_
        exact Steps.refl _)
      have c6 : Steps p.tables e below (s₁.setTop (entryFrame m #[.ref b, .int (Int32.ofNat o), .ref d, .int (Int32.ofNat q), .int (Int32.ofNat len)] 7)) (Tl.setTop (mkF m 31 #[.val (.ref b), .val (.int (Int32.ofNat (o + i))), .val (.ref d), .val (.int (Int32.ofNat (q + i))), .val (.int (Int32.ofNat len)), .val (.int (Int32.ofNat i)), .val (.int (cv A (o + i)))] [.int (lo8 (cv A (o + i))), .int (Int32.ofNat (q + i)), .ref d])) := c5.trans (by
        refine XS.iload Xl.here hexec rfl (hb hbytes d15) rfl ?_
        refine sipushV Xl.here hexec rfl 255 (hb hbytes d17) (by decide) ?_
        refine XS.icmpYes Xl.here hexec rfl (pc0 := 20) rfl (hb hbytes d20) rfl (ii_le_t (hp i (by omega))) (by decide) rfl ?_
        refine XS.aloadN Xl.here hexec rfl (hb hbytes d26) rfl rfl ?_
        refine XS.iloadN Xl.here hexec rfl (hb hbytes d27) rfl ?_
        refine XS.iload Xl.here hexec rfl (hb hbytes d28) rfl ?_
        refine i2b Xl.here hexec rfl (hb hbytes d30) rfl ?_
        exact Steps.refl _)
      obtain ⟨T7, X7, p7, st7⟩ := Xl.aput hexec hBk rfl hlt rfl (fits_lo8 (cv A (o + i))) (g := (mkF m 31 #[.val (.ref b), .val (.int (Int32.ofNat (o + i))), .val (.ref d), .val (.int (Int32.ofNat (q + i))), .val (.int (Int32.ofNat len)), .val (.int (Int32.ofNat i)), .val (.int (cv A (o + i)))] [.int (lo8 (cv A (o + i))), .int (Int32.ofNat (q + i)), .ref d])) rfl (rest := []) rfl (hb hbytes d31)
      have c8 : Steps p.tables e below (s₁.setTop (entryFrame m #[.ref b, .int (Int32.ofNat o), .ref d, .int (Int32.ofNat q), .int (Int32.ofNat len)] 7)) (T7.setTop (mkF m 32 #[.val (.ref b), .val (.int (Int32.ofNat (o + i))), .val (.ref d), .val (.int (Int32.ofNat (q + i))), .val (.int (Int32.ofNat len)), .val (.int (Int32.ofNat i)), .val (.int (cv A (o + i)))] [])) := c6.trans (st7 _ (Steps.refl _))
      have c9 : Steps p.tables e below (s₁.setTop (entryFrame m #[.ref b, .int (Int32.ofNat o), .ref d, .int (Int32.ofNat q), .int (Int32.ofNat len)] 7)) (T7.setTop (mkF m 3 #[.val (.ref b), .val (.int (Int32.ofNat (o + i) + 1)), .val (.ref d), .val (.int (Int32.ofNat (q + i) + 1)), .val (.int (Int32.ofNat len)), .val (.int (Int32.ofNat i + 1)), .val (.int (cv A (o + i)))] [])) := c8.trans (by
        refine iincV X7.here hexec rfl 1 (hb hbytes d32) (by decide) rfl rfl ?_
        refine iincV X7.here hexec rfl 1 (hb hbytes d35) (by decide) rfl rfl ?_
        refine iincV X7.here hexec rfl 1 (hb hbytes d38) (by decide) rfl rfl ?_
        refine XS.goto X7.here hexec rfl (pc0 := 41) rfl (hb hbytes d41) (by decide) rfl ?_
        exact Steps.refl _)
      have c10 : Steps p.tables e below (s₁.setTop (entryFrame m #[.ref b, .int (Int32.ofNat o), .ref d, .int (Int32.ofNat q), .int (Int32.ofNat len)] 7)) (T7.setTop (mkF m 3 #[.val (.ref b), .val (.int (Int32.ofNat (o + (i + 1)))), .val (.ref d), .val (.int (Int32.ofNat (q + (i + 1)))), .val (.int (Int32.ofNat len)), .val (.int (Int32.ofNat (i + 1))), .val (.int (cv A (o + i)))] [])) := by
        have := c9
        rw [succ32, succ32, succ32] at this
        exact this
      exact ih (i + 1) (by omega) _ (Or.inr ⟨_, rfl, rfl⟩) T7 _ (by rw [copyLocs_step, ← List.append_assoc]; exact X7) (pl.trans p7) (fl.step (by omega) hlt (by simp)) c10
  obtain ⟨T9, B9, z9, X9, p9, f9, g9⟩ := loop len 0 (by omega) .unset (Or.inl rfl) s₁ B (by simpa [copyLocs] using X0) ⟨hB0.1, fun _ _ => rfl, rfl⟩ (Laid.zero _ _ _) c2
  have c11 : Steps p.tables e below (s₁.setTop (entryFrame m #[.ref b, .int (Int32.ofNat o), .ref d, .int (Int32.ofNat q), .int (Int32.ofNat len)] 7)) (T9.setTop (mkF m 46 #[.val (.ref b), .val (.int (Int32.ofNat (o + len))), .val (.ref d), .val (.int (Int32.ofNat (q + len))), .val (.int (Int32.ofNat len)), .val (.int (Int32.ofNat len)), z9] [.int (Int32.ofNat len)])) := g9.trans (by
    refine XS.iload X9.here hexec rfl (hb hbytes d3) rfl ?_
    refine XS.iload X9.here hexec rfl (hb hbytes d5) rfl ?_
    refine XS.icmpYes X9.here hexec rfl (pc0 := 7) rfl (hb hbytes d7) rfl (ii_ge_t (nlt32 (by omega) (Nat.le_refl _))) (by decide) rfl ?_
    refine XS.iload X9.here hexec rfl (hb hbytes d44) rfl ?_
    exact Steps.refl _)
  exact ⟨T9, some (.int (Int32.ofNat len)), _, _, _, X9, by simp, rfl, rfl, (fun h => by cases h), ⟨rfl, B9, p9.from hh0, f9⟩, fun fs hl => c11.trans (X9.ireturnOut hexec hret rfl (Or.inl rfl) (hb hbytes d46) hl)⟩
end Cmp5
namespace Cmp3
def yN : MethodName := ⟨"java/lang/StringUTF16", "compress", "([CII)[B"⟩
abbrev yB : ByteArray := jdk_52_method_16_code
theorem d0 : decode yB 0 = .ok (.iload_n 2, 1) := by decide +kernel
theorem d1 : decode yB 1 = .ok (.newarray .byte, 2) := by decide +kernel
theorem d3 : decode yB 3 = .ok (.astore_n 3, 1) := by decide +kernel
theorem d4 : decode yB 4 = .ok (.aload_n 0, 1) := by decide +kernel
theorem d5 : decode yB 5 = .ok (.iload_n 1, 1) := by decide +kernel
theorem d6 : decode yB 6 = .ok (.aload_n 3, 1) := by decide +kernel
theorem d7 : decode yB 7 = .ok (.iconst 0, 1) := by decide +kernel
theorem d8 : decode yB 8 = .ok (.iload_n 2, 1) := by decide +kernel
theorem d9 : decode yB 9 = .ok (.invokestatic 115, 3) := by decide +kernel
theorem d12 : decode yB 12 = .ok (.istore 4, 2) := by decide +kernel
theorem d14 : decode yB 14 = .ok (.iload 4, 2) := by decide +kernel
theorem d16 : decode yB 16 = .ok (.iload_n 2, 1) := by decide +kernel
theorem d17 : decode yB 17 = .ok (.if_icmp (.eq) 40, 3) := by decide +kernel
theorem d57 : decode yB 57 = .ok (.aload_n 3, 1) := by decide +kernel
theorem d58 : decode yB 58 = .ok (.areturn, 1) := by decide +kernel
def site : List Cond := [.arrayClass .byte, Cmp5.tab] ++ staticW U16 115 Cmp5.yN
def tab : Cond := tabOf yN yB 6 (some (.array .byte)) site
def P (b : Addr) (A : Cell) (o len : Nat) (args : Array Value) (s : State) : Prop := args = #[.ref b, .int (Int32.ofNat o), .int (Int32.ofNat len)] ∧ Ch b A s ∧ o + len ≤ A.slots.size ∧ len ≤ 536870912 ∧ ∀ i, i < len → ¬ 255 < cv A (o + i)
def E (b : Addr) (A : Cell) (o len : Nat) (r : Option Value) (s u : State) : Prop := NewArr .byte "[B" len (fun j => .int (lo8 (cv A (o + j)))) r s u ∧ u.heap.size = s.heap.size + 1
/-- no char of the range above 255: a new byte[] of their low bytes -/
theorem law (l : Launch) (b : Addr) (A : Cell) (o len : Nat) : Law l yN 3 3 1 18 yB 6 (some (.array .byte)) site (P b A o len) (E b A o len) [] 1 len := by
  refine Law.of_walk (plainFor_of_name (by decide +kernel)) (by decide +kernel) (by decide +kernel) (by decide) (fun _ _ h => by rw [h.1]; rfl) (fun _ U U' hal hh h => ⟨h.1, h.2.1.mv hal hh, h.2.2⟩) (fun r U U' V V' h1 hal h2 h => ⟨NewArr.mv r U U' V V' h1 hal h2 h.1, by rw [h1, h2]; exact h.2⟩) ?_
  intro p e s m args below meth c s₁ X0 hexec hbytes hml hret hlk hnm hown hh0 W hP
  obtain ⟨rfl, hA, l1, l2, hp⟩ := hP
  have a31 := hA.1.2.2.2
  have c1 : Steps p.tables e below (s₁.setTop (entryFrame m #[.ref b, .int (Int32.ofNat o), .int (Int32.ofNat len)] 6)) (s₁.setTop (mkF m 0 #[.val (.ref b), .val (.int (Int32.ofNat o)), .val (.int (Int32.ofNat len)), .unset, .unset, .unset] [])) := entry rfl
  have c2 : Steps p.tables e below (s₁.setTop (entryFrame m #[.ref b, .int (Int32.ofNat o), .int (Int32.ofNat len)] 6)) (s₁.setTop (mkF m 1 #[.val (.ref b), .val (.int (Int32.ofNat o)), .val (.int (Int32.ofNat len)), .unset, .unset, .unset] [.int (Int32.ofNat len)])) := c1.trans (by
    refine XS.iloadN X0.here hexec rfl (hb hbytes d0) rfl ?_
    exact Steps.refl _)
  obtain ⟨T3, B3, X3, ba3, bs3, bv3, bh3, bf3, st3⟩ := X0.anew hexec (atype := .byte) (wk W (.arrayClass .byte)) rfl (by show len * 1 ≤ _; omega) (by omega) (g := (mkF m 1 #[.val (.ref b), .val (.int (Int32.ofNat o)), .val (.int (Int32.ofNat len)), .unset, .unset, .unset] [.int (Int32.ofNat len)])) rfl (hb hbytes d1) (rest := []) rfl (Nat.le_refl _) (by show 0 + len ≤ len; omega)
  rw [hh0] at ba3 st3
  have kp3 : XT.Kept s T3 := (XT.Kept.of_eq hh0).push bh3
  have hA3 := hA.keep X3.warmed.alike (kp3 _ _ hA.1.1)
  have hne : b ≠ s.heap.size := hA.1.ne
  have c4 : Steps p.tables e below (s₁.setTop (entryFrame m #[.ref b, .int (Int32.ofNat o), .int (Int32.ofNat len)] 6)) (T3.setTop (mkF m 3 #[.val (.ref b), .val (.int (Int32.ofNat o)), .val (.int (Int32.ofNat len)), .unset, .unset, .unset] [.ref s.heap.size])) := c2.trans (st3 _ (Steps.refl _))
  have c5 : Steps p.tables e below (s₁.setTop (entryFrame m #[.ref b, .int (Int32.ofNat o), .int (Int32.ofNat len)] 6)) (T3.setTop (mkF m 9 #[.val (.ref b), .val (.int (Int32.ofNat o)), .val (.int (Int32.ofNat len)), .val (.ref s.heap.size), .unset, .unset] [.int (Int32.ofNat len), .int 0, .ref s.heap.size, .int (Int32.ofNat o), .ref b])) := c4.trans (by
    refine XS.astoreN X3.here hexec rfl (hb hbytes d3) rfl rfl rfl ?_
    refine XS.aloadN X3.here hexec rfl (hb hbytes d4) rfl rfl ?_
    refine XS.iloadN X3.here hexec rfl (hb hbytes d5) rfl ?_
    refine XS.aloadN X3.here hexec rfl (hb hbytes d6) rfl rfl ?_
    refine iconstV X3.here hexec rfl 0 (hb hbytes d7) (by decide) ?_
    refine XS.iloadN X3.here hexec rfl (hb hbytes d8) rfl ?_
    exact Steps.refl _)
  obtain ⟨v6, T6, X6, E6, g6⟩ := X3.callS hexec (Cmp5.law l b A s.heap.size B3 o 0 len) hown (wks W (staticW U16 115 Cmp5.yN)) (wk W Cmp5.tab) (W := 0) (Nat.le_of_ble_eq_true rfl) (Nat.le_of_ble_eq_true rfl) (Nat.le_refl _) (by show 0 + len + 0 ≤ len; omega) (g := (mkF m 9 #[.val (.ref b), .val (.int (Int32.ofNat o)), .val (.int (Int32.ofNat len)), .val (.ref s.heap.size), .unset, .unset] [.int (Int32.ofNat len), .int (Int32.ofNat 0), .ref s.heap.size, .int (Int32.ofNat o), .ref b])) rfl (by rw [hml]; rfl) c5 (argsL := [.ref b, .int (Int32.ofNat o), .ref s.heap.size, .int (Int32.ofNat 0), .int (Int32.ofNat len)]) (rest := []) rfl rfl (by show 2 * 0 + 0 ≤ _; decide) (hb hbytes d9) (⟨rfl, hA3, ba3, hne, l1, by rw [bs3]; simp, hp⟩)
  obtain ⟨rfl, B6, p6, f6⟩ := E6
  have c7 : Steps p.tables e below (s₁.setTop (entryFrame m #[.ref b, .int (Int32.ofNat o), .int (Int32.ofNat len)] 6)) (T6.setTop (mkF m 12 #[.val (.ref b), .val (.int (Int32.ofNat o)), .val (.int (Int32.ofNat len)), .val (.ref s.heap.size), .unset, .unset] [.int (Int32.ofNat len)])) := g6
  have c8 : Steps p.tables e below (s₁.setTop (entryFrame m #[.ref b, .int (Int32.ofNat o), .int (Int32.ofNat len)] 6)) (T6.setTop (mkF m 58 #[.val (.ref b), .val (.int (Int32.ofNat o)), .val (.int (Int32.ofNat len)), .val (.ref s.heap.size), .val (.int (Int32.ofNat len)), .unset] [.ref s.heap.size])) := c7.trans (by
    refine XS.istore X6.here hexec rfl (hb hbytes d12) rfl rfl ?_
    refine XS.iload X6.here hexec rfl (hb hbytes d14) rfl ?_
    refine XS.iloadN X6.here hexec rfl (hb hbytes d16) rfl ?_
    refine XS.icmpYes X6.here hexec rfl (pc0 := 17) rfl (hb hbytes d17) rfl (ii_eq_t rfl) (by decide) rfl ?_
    refine XS.aloadN X6.here hexec rfl (hb hbytes d57) rfl rfl ?_
    exact Steps.refl _)
  have X8 := X6.wide (L' := []) (cells' := 1) (slots' := len) (fun x hx hlt => by
    simp only [List.nil_append, copyLocs, List.mem_map, List.mem_range] at hx
    obtain ⟨i, -, rfl⟩ := hx
    exact absurd hlt (Nat.lt_irrefl _)) (Nat.le_refl _) (by omega)
  exact ⟨T6, some (.ref s.heap.size), _, _, _, X8, rfl, rfl, rfl, (fun h => by cases h), ⟨⟨rfl, B6, ba3.like (X3.warmed.alike.symm.trans X6.warmed.alike) p6.1 f6.1 f6.2.1 f6.2.2.1, f6.2.1.trans bv3, by rw [X6.warmed.alike.findClass, f6.1]; exact bf3, by rw [f6.2.2.1, bs3]; simp, fun j hj => by rw [f6.2.2.2 j, if_pos (by omega)]; rfl, kp3.put p6 (Nat.le_refl _)⟩, by rw [p6.2.2, bh3, hh0]; simp⟩, fun fs hl => c8.trans (X8.areturnOut hexec rfl hret rfl (hb hbytes d58) hl)⟩
end Cmp3
namespace CodL
def yN : MethodName := ⟨"java/lang/StringUTF16", "coderFromArrayLen", "([BI)B"⟩
abbrev yB : ByteArray := jdk_52_method_15_code
theorem d0 : decode yB 0 = .ok (.iload_n 1, 1) := by decide +kernel
theorem d1 : decode yB 1 = .ok (.aload_n 0, 1) := by decide +kernel
theorem d2 : decode yB 2 = .ok (.arraylength, 1) := by decide +kernel
theorem d3 : decode yB 3 = .ok (.isub, 1) := by decide +kernel
theorem d4 : decode yB 4 = .ok (.bipush 31, 2) := by decide +kernel
theorem d6 : decode yB 6 = .ok (.iushr, 1) := by decide +kernel
theorem d7 : decode yB 7 = .ok (.i2b, 1) := by decide +kernel
theorem d8 : decode yB 8 = .ok (.ireturn, 1) := by decide +kernel
def site : List Cond := []
def tab : Cond := tabOf yN yB 2 (some .byte) site
def P (d : Addr) (B : Cell) (args : Array Value) (s : State) : Prop := args = #[.ref d, .int (Int32.ofNat B.slots.size)] ∧ Arr .byte d B s
def E (r : Option Value) (s u : State) : Prop := XT.PureE (some (.int 0)) r s u
/-- an array as long as the number of chars: LATIN1 -/
theorem law (l : Launch) (d : Addr) (B : Cell) : Law l yN 2 2 0 0 yB 2 (some .byte) site (P d B) E [] 0 0 := by
  refine Law.of_walk (plainFor_of_name (by decide +kernel)) (by decide +kernel) (by decide +kernel) (by decide) (fun _ _ h => by rw [h.1]; rfl) (fun _ U U' hal hh h => ⟨h.1, h.2.mv hal hh⟩) (fun r U U' V V' h1 hal h2 h => XT.PureE.mv r U U' V V' h1 hal h2 h) ?_
  intro p e s m args below meth c s₁ X0 hexec hbytes hml hret hlk hnm hown hh0 W hP
  obtain ⟨rfl, hB⟩ := hP
  have hB0 := hB.mv X0.warmed.alike hh0
  have c1 : Steps p.tables e below (s₁.setTop (entryFrame m #[.ref d, .int (Int32.ofNat B.slots.size)] 2)) (s₁.setTop (mkF m 0 #[.val (.ref d), .val (.int (Int32.ofNat B.slots.size))] [])) := entry rfl
  have c2 : Steps p.tables e below (s₁.setTop (entryFrame m #[.ref d, .int (Int32.ofNat B.slots.size)] 2)) (s₁.setTop (mkF m 2 #[.val (.ref d), .val (.int (Int32.ofNat B.slots.size))] [.ref d, .int (Int32.ofNat B.slots.size)])) := c1.trans (by
    refine XS.iloadN X0.here hexec rfl (hb hbytes d0) rfl ?_
    refine XS.aloadN X0.here hexec rfl (hb hbytes d1) rfl rfl ?_
    exact Steps.refl _)
  have c3 : Steps p.tables e below (s₁.setTop (entryFrame m #[.ref d, .int (Int32.ofNat B.slots.size)] 2)) (s₁.setTop (mkF m 8 #[.val (.ref d), .val (.int (Int32.ofNat B.slots.size))] [.int (lo8 (ushr (Int32.ofNat B.slots.size - Int32.ofNat B.slots.size) 31))])) := c2.trans (by
    refine X0.alen hexec hB0 rfl rfl (hb hbytes d2) ?_
    refine XS.isub X0.here hexec rfl (hb hbytes d3) rfl ?_
    refine bipushV X0.here hexec rfl 31 (hb hbytes d4) (by decide) ?_
    refine iushr X0.here hexec rfl (hb hbytes d6) rfl ?_
    refine i2b X0.here hexec rfl (hb hbytes d7) rfl ?_
    exact Steps.refl _)
  have e0 : lo8 (ushr (Int32.ofNat B.slots.size - Int32.ofNat B.slots.size) 31) = 0 := by rw [Int32.sub_self]; decide
  rw [e0] at c3
  exact ⟨s₁, some (.int 0), _, _, _, X0, rfl, rfl, rfl, (fun h => by cases h), ⟨rfl, hh0⟩, fun fs hl => c3.trans (X0.ireturnOut hexec hret rfl (Or.inr (Or.inr (Or.inl rfl))) (hb hbytes d8) hl)⟩
end CodL
/-- the String at a is Latin-1 over a new byte[] (the heap's one new cell): the low bytes of the len chars of A from o on; every cell but a is kept -/
def Got (a : Addr) (D : Cell) (fV fC : Field) (A : Cell) (o len : Nat) (r : Option Value) (s u : State) : Prop := r = none ∧ ∃ D' V : Cell, Blank "java/lang/String" a D' u ∧ Same D D' [fV.slot, fC.slot] ∧ D'.slots[fV.slot]? = some (.ref s.heap.size) ∧ D'.slots[fC.slot]? = some (.int 0) ∧ Arr .byte s.heap.size V u ∧ V.vm = .none ∧ u.vm.findClass "[B" = some V.cls ∧ V.slots.size = len ∧ (∀ j, j < len → V.slots[j]? = some (.int (lo8 (cv A (o + j))))) ∧ (∀ (y : Addr) (c : Cell), y ≠ a → s.heap[y]? = some c → u.heap[y]? = some c) ∧ u.heap.size = s.heap.size + 1
theorem Got.mv {a : Addr} {D A : Cell} {fV fC : Field} {o len : Nat} : ∀ r (U U' V V' : State), U'.heap = U.heap → V.vm.Alike V'.vm → V'.heap = V.heap → Got a D fV fC A o len r U V → Got a D fV fC A o len r U' V' :=
  fun r U U' V V' h1 hal h2 ⟨e0, D', X, a1, a2, a3, a4, a5, a6, a7, a8, a9, a10, a11⟩ => ⟨e0, D', X, a1.mv hal h2, a2, by rw [h1]; exact a3, a4, by rw [h1]; exact a5.mv hal h2, a6, by rw [hal.findClass]; exact a7, a8, a9, by rw [h1, h2]; exact a10, by rw [h1, h2]; exact a11⟩
namespace New4
def yN : MethodName := ⟨"java/lang/String", "<init>", "([CIILjava/lang/Void;)V"⟩
abbrev yB : ByteArray := jdk_42_method_149_code
theorem d0 : decode yB 0 = .ok (.aload_n 0, 1) := by decide +kernel
theorem d1 : decode yB 1 = .ok (.invokespecial 1, 3) := by decide +kernel
theorem d4 : decode yB 4 = .ok (.iload_n 3, 1) := by decide +kernel
theorem d5 : decode yB 5 = .ok (.ifCond (.ne) 22, 3) := by decide +kernel
theorem d27 : decode yB 27 = .ok (.getstatic 38, 3) := by decide +kernel
theorem d30 : decode yB 30 = .ok (.ifCond (.eq) 28, 3) := by decide +kernel
theorem d33 : decode yB 33 = .ok (.aload_n 1, 1) := by decide +kernel
theorem d34 : decode yB 34 = .ok (.iload_n 2, 1) := by decide +kernel
theorem d35 : decode yB 35 = .ok (.iload_n 3, 1) := by decide +kernel
theorem d36 : decode yB 36 = .ok (.invokestatic 177, 3) := by decide +kernel
theorem d39 : decode yB 39 = .ok (.astore 5, 2) := by decide +kernel
theorem d41 : decode yB 41 = .ok (.aload_n 0, 1) := by decide +kernel
theorem d42 : decode yB 42 = .ok (.aload 5, 2) := by decide +kernel
theorem d44 : decode yB 44 = .ok (.iload_n 3, 1) := by decide +kernel
theorem d45 : decode yB 45 = .ok (.invokestatic 47, 3) := by decide +kernel
theorem d48 : decode yB 48 = .ok (.putfield 15, 3) := by decide +kernel
theorem d51 : decode yB 51 = .ok (.aload_n 0, 1) := by decide +kernel
theorem d52 : decode yB 52 = .ok (.aload 5, 2) := by decide +kernel
theorem d54 : decode yB 54 = .ok (.putfield 9, 3) := by decide +kernel
theorem d57 : decode yB 57 = .ok (.return_, 1) := by decide +kernel
def site : List Cond := [.fieldLink "java/lang/String" 38 "java/lang/String" "COMPACT_STRINGS" "Z", Cmp3.tab, CodL.tab, .laysFinal "java/lang/String" "java/lang/String" "value" "[B", .fieldLink "java/lang/String" 9 "java/lang/String" "value" "[B", .laysFinal "java/lang/String" "java/lang/String" "coder" "B", .fieldLink "java/lang/String" 15 "java/lang/String" "coder" "B"] ++ objW "java/lang/String" 1 ++ staticW "java/lang/String" 177 Cmp3.yN ++ staticW "java/lang/String" 47 CodL.yN
def tab : Cond := tabOf yN yB 6 none site
def P (a : Addr) (D : Cell) (fV fC : Field) (b : Addr) (A : Cell) (z : Int32) (o len : Nat) (args : Array Value) (s : State) : Prop := args = #[.ref a, .ref b, .int (Int32.ofNat o), .int (Int32.ofNat len), .null] ∧ Blank "java/lang/String" a D s ∧ Found "java/lang/String" "value" "[B" fV s ∧ Found "java/lang/String" "coder" "B" fC s ∧ Ch b A s ∧ StaticIs s "java/lang/String" "COMPACT_STRINGS" "Z" (.int z) ∧ ¬ z = 0 ∧ 0 < len ∧ o + len ≤ A.slots.size ∧ len ≤ 536870912 ∧ ∀ i, i < len → ¬ 255 < cv A (o + i)
def E (a : Addr) (D : Cell) (fV fC : Field) (A : Cell) (o len : Nat) (r : Option Value) (s u : State) : Prop := Got a D fV fC A o len r s u
/-- len > 0, no char of the range above 255: a Latin-1 String of their low bytes -/
theorem law (l : Launch) (a : Addr) (D : Cell) (fV fC : Field) (b : Addr) (A : Cell) (z : Int32) (o len : Nat) : Law l yN 5 4 2 35 yB 6 none site (P a D fV fC b A z o len) (E a D fV fC A o len) [⟨a, fC.slot⟩, ⟨a, fV.slot⟩] 1 len := by
  refine Law.of_walk (plainFor_of_name (by decide +kernel)) (by decide +kernel) (by decide +kernel) (by decide) (fun _ _ h => by rw [h.1]; rfl) (fun _ U U' hal hh h => ⟨h.1, h.2.1.mv hal hh, h.2.2.1.al hal, h.2.2.2.1.al hal, h.2.2.2.2.1.mv hal hh, h.2.2.2.2.2.1.there hal hh, h.2.2.2.2.2.2⟩) (fun r U U' V V' h1 hal h2 h => Got.mv r U U' V V' h1 hal h2 h) ?_
  intro p e s m args below meth c s₁ X0 hexec hbytes hml hret hlk hnm hown hh0 W hP
  obtain ⟨rfl, hB, f1, f2, hA, s1, hz, l0, l1, l2, hp⟩ := hP
  have a31 := hA.1.2.2.2
  have c1 : Steps p.tables e below (s₁.setTop (entryFrame m #[.ref a, .ref b, .int (Int32.ofNat o), .int (Int32.ofNat len), .null] 6)) (s₁.setTop (mkF m 0 #[.val (.ref a), .val (.ref b), .val (.int (Int32.ofNat o)), .val (.int (Int32.ofNat len)), .val .null, .unset] [])) := entry rfl
  have c2 : Steps p.tables e below (s₁.setTop (entryFrame m #[.ref a, .ref b, .int (Int32.ofNat o), .int (Int32.ofNat len), .null] 6)) (s₁.setTop (mkF m 1 #[.val (.ref a), .val (.ref b), .val (.int (Int32.ofNat o)), .val (.int (Int32.ofNat len)), .val .null, .unset] [.ref a])) := c1.trans (by
    refine XS.aloadN X0.here hexec rfl (hb hbytes d0) rfl rfl ?_
    exact Steps.refl _)
  obtain ⟨T3, X3, q3, st3⟩ := X0.oinit hexec hown (wks W (objW "java/lang/String" 1)) (g := (mkF m 1 #[.val (.ref a), .val (.ref b), .val (.int (Int32.ofNat o)), .val (.int (Int32.ofNat len)), .val .null, .unset] [.ref a])) rfl (by rw [hml]; rfl) (rest := []) rfl (hb hbytes d1) (W := 0) (by show 2 * 0 + 0 ≤ _; decide) (Nat.le_of_ble_eq_true rfl) (Nat.le_of_ble_eq_true rfl)
  have hh3 := q3.trans hh0
  have c4 : Steps p.tables e below (s₁.setTop (entryFrame m #[.ref a, .ref b, .int (Int32.ofNat o), .int (Int32.ofNat len), .null] 6)) (T3.setTop (mkF m 27 #[.val (.ref a), .val (.ref b), .val (.int (Int32.ofNat o)), .val (.int (Int32.ofNat len)), .val .null, .unset] [])) := (c2.trans (st3 _ (Steps.refl _))).trans (by
    refine XS.iloadN X3.here hexec rfl (hb hbytes d4) rfl ?_
    refine XS.ifYes X3.here hexec rfl (pc0 := 5) rfl (hb hbytes d5) rfl (i0_ne_t (nz32 (by omega) l0)) (by decide) rfl ?_
    exact Steps.refl _)
  obtain ⟨T5, X5, q5, st5⟩ := X3.sget hexec hown (wk W (.fieldLink "java/lang/String" 38 "java/lang/String" "COMPACT_STRINGS" "Z")) s1 (fun _ _ h => by rw [hh3]; exact h) (g := (mkF m 27 #[.val (.ref a), .val (.ref b), .val (.int (Int32.ofNat o)), .val (.int (Int32.ofNat len)), .val .null, .unset] [])) rfl (hb hbytes d27)
  have hh5 := q5.trans hh3
  have c6 : Steps p.tables e below (s₁.setTop (entryFrame m #[.ref a, .ref b, .int (Int32.ofNat o), .int (Int32.ofNat len), .null] 6)) (T5.setTop (mkF m 30 #[.val (.ref a), .val (.ref b), .val (.int (Int32.ofNat o)), .val (.int (Int32.ofNat len)), .val .null, .unset] [.int z])) := c4.trans (st5 _ (Steps.refl _))
  have c7 : Steps p.tables e below (s₁.setTop (entryFrame m #[.ref a, .ref b, .int (Int32.ofNat o), .int (Int32.ofNat len), .null] 6)) (T5.setTop (mkF m 36 #[.val (.ref a), .val (.ref b), .val (.int (Int32.ofNat o)), .val (.int (Int32.ofNat len)), .val .null, .unset] [.int (Int32.ofNat len), .int (Int32.ofNat o), .ref b])) := c6.trans (by
    refine XS.ifNo X5.here hexec rfl (hb hbytes d30) rfl (i0_eq_f hz) ?_
    refine XS.aloadN X5.here hexec rfl (hb hbytes d33) rfl rfl ?_
    refine XS.iloadN X5.here hexec rfl (hb hbytes d34) rfl ?_
    refine XS.iloadN X5.here hexec rfl (hb hbytes d35) rfl ?_
    exact Steps.refl _)
  obtain ⟨v8, T8, X8, E8, g8⟩ := X5.callS hexec (Cmp3.law l b A o len) hown (wks W (staticW "java/lang/String" 177 Cmp3.yN)) (wk W Cmp3.tab) (W := 0) (Nat.le_of_ble_eq_true rfl) (Nat.le_of_ble_eq_true rfl) (Nat.le_refl _) (by show 0 + len ≤ len; omega) (g := (mkF m 36 #[.val (.ref a), .val (.ref b), .val (.int (Int32.ofNat o)), .val (.int (Int32.ofNat len)), .val .null, .unset] [.int (Int32.ofNat len), .int (Int32.ofNat o), .ref b])) rfl (by rw [hml]; rfl) c7 (argsL := [.ref b, .int (Int32.ofNat o), .int (Int32.ofNat len)]) (rest := []) rfl rfl (by show 2 * 0 + 0 ≤ _; decide) (hb hbytes d36) (⟨rfl, hA.mv X5.warmed.alike hh5, l1, l2, hp⟩)
  obtain ⟨e8, z8⟩ := E8
  obtain ⟨rfl, N, n1, n2, n3, n4, n5, n6⟩ := NewArr.mv _ T5 s _ _ hh5.symm (Vm.Alike.refl _) rfl e8
  rw [hh5] at z8
  have hB1 := hB.keep X8.warmed.alike (n6 _ _ hB.1)
  have hne : s.heap.size ≠ a := (Nat.ne_of_lt (Array.getElem?_eq_some_iff.mp hB.1).1).symm
  have c9 : Steps p.tables e below (s₁.setTop (entryFrame m #[.ref a, .ref b, .int (Int32.ofNat o), .int (Int32.ofNat len), .null] 6)) (T8.setTop (mkF m 39 #[.val (.ref a), .val (.ref b), .val (.int (Int32.ofNat o)), .val (.int (Int32.ofNat len)), .val .null, .unset] [.ref s.heap.size])) := g8
  have c10 : Steps p.tables e below (s₁.setTop (entryFrame m #[.ref a, .ref b, .int (Int32.ofNat o), .int (Int32.ofNat len), .null] 6)) (T8.setTop (mkF m 45 #[.val (.ref a), .val (.ref b), .val (.int (Int32.ofNat o)), .val (.int (Int32.ofNat len)), .val .null, .val (.ref s.heap.size)] [.int (Int32.ofNat N.slots.size), .ref s.heap.size, .ref a])) := by
    have hc : Steps p.tables e below (s₁.setTop (entryFrame m #[.ref a, .ref b, .int (Int32.ofNat o), .int (Int32.ofNat len), .null] 6)) (T8.setTop (mkF m 45 #[.val (.ref a), .val (.ref b), .val (.int (Int32.ofNat o)), .val (.int (Int32.ofNat len)), .val .null, .val (.ref s.heap.size)] [.int (Int32.ofNat len), .ref s.heap.size, .ref a])) := c9.trans (by
      refine XS.astore X8.here hexec rfl (hb hbytes d39) rfl rfl rfl ?_
      refine XS.aloadN X8.here hexec rfl (hb hbytes d41) rfl rfl ?_
      refine XS.aload X8.here hexec rfl (hb hbytes d42) rfl rfl ?_
      refine XS.iloadN X8.here hexec rfl (hb hbytes d44) rfl ?_
      exact Steps.refl _)
    rw [n4]; exact hc
  obtain ⟨v11, T11, X11, E11, g11⟩ := X8.callS hexec (CodL.law l s.heap.size N) hown (wks W (staticW "java/lang/String" 47 CodL.yN)) (wk W CodL.tab) (W := 1) (Nat.le_of_ble_eq_true rfl) (Nat.le_of_ble_eq_true rfl) (Nat.le_refl _) (by show 0 + len + 0 ≤ len; omega) (g := (mkF m 45 #[.val (.ref a), .val (.ref b), .val (.int (Int32.ofNat o)), .val (.int (Int32.ofNat len)), .val .null, .val (.ref s.heap.size)] [.int (Int32.ofNat N.slots.size), .ref s.heap.size, .ref a])) rfl (by rw [hml]; rfl) c10 (argsL := [.ref s.heap.size, .int (Int32.ofNat N.slots.size)]) (rest := [.ref a]) rfl rfl (by show 2 * 0 + (1 + 0) ≤ _; decide) (hb hbytes d45) (⟨rfl, n1⟩)
  obtain ⟨rfl, q11⟩ := E11
  have hB11 := hB1.mv (X8.warmed.alike.symm.trans X11.warmed.alike) q11
  have c12 : Steps p.tables e below (s₁.setTop (entryFrame m #[.ref a, .ref b, .int (Int32.ofNat o), .int (Int32.ofNat len), .null] 6)) (T11.setTop (mkF m 48 #[.val (.ref a), .val (.ref b), .val (.int (Int32.ofNat o)), .val (.int (Int32.ofNat len)), .val .null, .val (.ref s.heap.size)] [.int 0, .ref a])) := g11
  obtain ⟨T13, X13, p13, bl13, sl13, st13⟩ := X11.finit hexec hown (wk W (.fieldLink "java/lang/String" 15 "java/lang/String" "coder" "B")) (Or.inr ⟨_, (wk W (.laysFinal "java/lang/String" "java/lang/String" "coder" "B"))⟩) (Or.inl ⟨rfl, hnm⟩) f2 (Or.inl rfl) hB11 (t := .byte) (by decide +kernel) rfl (g := (mkF m 48 #[.val (.ref a), .val (.ref b), .val (.int (Int32.ofNat o)), .val (.int (Int32.ofNat len)), .val .null, .val (.ref s.heap.size)] [.int 0, .ref a])) rfl (rest := []) rfl (hb hbytes d48)
  have c14 : Steps p.tables e below (s₁.setTop (entryFrame m #[.ref a, .ref b, .int (Int32.ofNat o), .int (Int32.ofNat len), .null] 6)) (T13.setTop (mkF m 54 #[.val (.ref a), .val (.ref b), .val (.int (Int32.ofNat o)), .val (.int (Int32.ofNat len)), .val .null, .val (.ref s.heap.size)] [.ref s.heap.size, .ref a])) := (c12.trans (st13 _ (Steps.refl _))).trans (by
    refine XS.aloadN X13.here hexec rfl (hb hbytes d51) rfl rfl ?_
    refine XS.aload X13.here hexec rfl (hb hbytes d52) rfl rfl ?_
    exact Steps.refl _)
  obtain ⟨T15, X15, p15, bl15, sl15, st15⟩ := X13.finit hexec hown (wk W (.fieldLink "java/lang/String" 9 "java/lang/String" "value" "[B")) (Or.inr ⟨_, (wk W (.laysFinal "java/lang/String" "java/lang/String" "value" "[B"))⟩) (Or.inl ⟨rfl, hnm⟩) f1 (Or.inl rfl) bl13 (t := (.array .byte)) (by decide +kernel) rfl (g := (mkF m 54 #[.val (.ref a), .val (.ref b), .val (.int (Int32.ofNat o)), .val (.int (Int32.ofNat len)), .val .null, .val (.ref s.heap.size)] [.ref s.heap.size, .ref a])) rfl (rest := []) rfl (hb hbytes d54)
  have c16 : Steps p.tables e below (s₁.setTop (entryFrame m #[.ref a, .ref b, .int (Int32.ofNat o), .int (Int32.ofNat len), .null] 6)) (T15.setTop (mkF m 57 #[.val (.ref a), .val (.ref b), .val (.int (Int32.ofNat o)), .val (.int (Int32.ofNat len)), .val .null, .val (.ref s.heap.size)] [])) := c14.trans (st15 _ (Steps.refl _))
  have ap := apart (Or.inr ⟨_, (wk W (.laysFinal "java/lang/String" "java/lang/String" "value" "[B"))⟩) (Or.inr ⟨_, (wk W (.laysFinal "java/lang/String" "java/lang/String" "coder" "B"))⟩) f1 f2 (t₁ := .array .byte) (t₂ := .byte) (by decide +kernel) (by decide +kernel) (by decide)
  have al := X8.warmed.alike.symm.trans X15.warmed.alike
  have n7 : T11.heap[s.heap.size]? = some N := by rw [q11]; exact n1.1
  exact ⟨T15, none, _, _, _, X15, by simp, rfl, by omega, (fun _ => rfl), ⟨rfl, _, N, bl15, ((Same.refl D _).set _ (by simp)).set _ (by simp), sl15, (Cell.slots_setSlot_ne _ ap).trans sl13, n1.keep al (p15.other hne (p13.other hne n7)), n2, by rw [al.findClass]; exact n3, n4, n5, fun y c h1 h2 => p15.other h1 (p13.other h1 (by rw [q11]; exact n6 y c h2)), by rw [p15.2.2, p13.2.2, q11]; exact z8⟩, fun fs hl => c16.trans (X15.returnOut hexec hret (hb hbytes d57) hl)⟩
end New4
namespace New1
def yN : MethodName := ⟨"java/lang/String", "<init>", "([C)V"⟩
abbrev yB : ByteArray := jdk_42_method_3_code
theorem d0 : decode yB 0 = .ok (.aload_n 0, 1) := by decide +kernel
theorem d1 : decode yB 1 = .ok (.aload_n 1, 1) := by decide +kernel
theorem d2 : decode yB 2 = .ok (.iconst 0, 1) := by decide +kernel
theorem d3 : decode yB 3 = .ok (.aload_n 1, 1) := by decide +kernel
theorem d4 : decode yB 4 = .ok (.arraylength, 1) := by decide +kernel
theorem d5 : decode yB 5 = .ok (.aconst_null, 1) := by decide +kernel
theorem d6 : decode yB 6 = .ok (.invokespecial 27, 3) := by decide +kernel
theorem d9 : decode yB 9 = .ok (.return_, 1) := by decide +kernel
def site : List Cond := [New4.tab] ++ initW "java/lang/String" 27 New4.yN
def tab : Cond := tabOf yN yB 2 none site
def P (a : Addr) (D : Cell) (fV fC : Field) (b : Addr) (A : Cell) (z : Int32) (args : Array Value) (s : State) : Prop := args = #[.ref a, .ref b] ∧ Blank "java/lang/String" a D s ∧ Found "java/lang/String" "value" "[B" fV s ∧ Found "java/lang/String" "coder" "B" fC s ∧ Ch b A s ∧ StaticIs s "java/lang/String" "COMPACT_STRINGS" "Z" (.int z) ∧ ¬ z = 0 ∧ 0 < A.slots.size ∧ A.slots.size ≤ 536870912 ∧ ∀ i, i < A.slots.size → ¬ 255 < cv A i
def E (a : Addr) (D : Cell) (fV fC : Field) (A : Cell) (r : Option Value) (s u : State) : Prop := Got a D fV fC A 0 A.slots.size r s u
/-- new String(chars), not empty, no char above 255: a Latin-1 String of their low bytes -/
theorem law (l : Launch) (a : Addr) (D : Cell) (fV fC : Field) (b : Addr) (A : Cell) (z : Int32) : Law l yN 2 1 3 52 yB 2 none site (P a D fV fC b A z) (E a D fV fC A) [⟨a, fC.slot⟩, ⟨a, fV.slot⟩] 1 A.slots.size := by
  refine Law.of_walk (plainFor_of_name (by decide +kernel)) (by decide +kernel) (by decide +kernel) (by decide) (fun _ _ h => by rw [h.1]; rfl) (fun _ U U' hal hh h => ⟨h.1, h.2.1.mv hal hh, h.2.2.1.al hal, h.2.2.2.1.al hal, h.2.2.2.2.1.mv hal hh, h.2.2.2.2.2.1.there hal hh, h.2.2.2.2.2.2⟩) (fun r U U' V V' h1 hal h2 h => Got.mv r U U' V V' h1 hal h2 h) ?_
  intro p e s m args below meth c s₁ X0 hexec hbytes hml hret hlk hnm hown hh0 W hP
  obtain ⟨rfl, hB, f1, f2, hA, s1, hz, l0, l2, hp⟩ := hP
  have c1 : Steps p.tables e below (s₁.setTop (entryFrame m #[.ref a, .ref b] 2)) (s₁.setTop (mkF m 0 #[.val (.ref a), .val (.ref b)] [])) := entry rfl
  have c2 : Steps p.tables e below (s₁.setTop (entryFrame m #[.ref a, .ref b] 2)) (s₁.setTop (mkF m 6 #[.val (.ref a), .val (.ref b)] [.null, .int (Int32.ofNat A.slots.size), .int 0, .ref b, .ref a])) := c1.trans (by
    refine XS.aloadN X0.here hexec rfl (hb hbytes d0) rfl rfl ?_
    refine XS.aloadN X0.here hexec rfl (hb hbytes d1) rfl rfl ?_
    refine iconstV X0.here hexec rfl 0 (hb hbytes d2) (by decide) ?_
    refine XS.aloadN X0.here hexec rfl (hb hbytes d3) rfl rfl ?_
    refine X0.alen hexec (hA.1.mv X0.warmed.alike hh0) rfl rfl (hb hbytes d4) ?_
    refine XS.aconstNull X0.here hexec rfl (hb hbytes d5) ?_
    exact Steps.refl _)
  obtain ⟨v3, T3, X3, E3, g3⟩ := X0.callN hexec (New4.law l a D fV fC b A z 0 A.slots.size) rfl hown (wks W (initW "java/lang/String" 27 New4.yN)) (W New4.tab (by simp only [site, List.mem_cons, List.mem_append, true_or, or_true])) (W := 0) (Nat.le_of_ble_eq_true rfl) (Nat.le_of_ble_eq_true rfl) (Nat.le_refl _) (by show 0 + A.slots.size ≤ A.slots.size; omega) (g := (mkF m 6 #[.val (.ref a), .val (.ref b)] [.null, .int (Int32.ofNat A.slots.size), .int (Int32.ofNat 0), .ref b, .ref a])) rfl (by rw [hml]; rfl) c2 (argsL := [.ref b, .int (Int32.ofNat 0), .int (Int32.ofNat A.slots.size), .null]) (rest := []) rfl rfl (by show 2 * 0 + 0 ≤ _; decide) (hb hbytes d6) (⟨rfl, hB.mv X0.warmed.alike hh0, f1.al X0.warmed.alike, f2.al X0.warmed.alike, hA.mv X0.warmed.alike hh0, s1.there X0.warmed.alike hh0, hz, l0, by omega, l2, fun i hi => by rw [Nat.zero_add]; exact hp i hi⟩)
  have e0 := Got.mv _ s₁ s _ _ hh0.symm (Vm.Alike.refl _) rfl E3
  obtain rfl := e0.1
  have c4 : Steps p.tables e below (s₁.setTop (entryFrame m #[.ref a, .ref b] 2)) (T3.setTop (mkF m 9 #[.val (.ref a), .val (.ref b)] [])) := g3
  exact ⟨T3, none, _, _, _, X3, by simp, rfl, by omega, (fun _ => rfl), e0, fun fs hl => c4.trans (X3.returnOut hexec hret (hb hbytes d9) hl)⟩
theorem pays {l : Launch} {R : Room} {p : Program} {e : Env} {below : List Frame} {s : State} {sargs : Array Value} {len W : Nat} (a : Addr) (D : Cell) (fV fC : Field) (b : Addr) (A : Cell) (z : Int32) (htab : tab.before sargs s = true) (hfr : 4 ≤ R.frames) (hlo : W + 65 ≤ R.locals) :
    Back l R p e below s sargs yN len W (fun A₁ a₁ => A₁.cells + 1 ≤ R.cells ∧ A₁.slots + A.slots.size ≤ R.slots ∧ P a D fV fC b A z a₁ A₁.U) (fun A₁ _ v₁ B₁ => E a D fV fC A v₁ A₁.U B₁.U ∧ B₁.locs = A₁.locs ++ [⟨a, fC.slot⟩, ⟨a, fV.slot⟩] ∧ B₁.cells = A₁.cells + 1 ∧ B₁.slots = A₁.slots + A.slots.size) :=
  (law l a D fV fC b A z).pays htab hfr (by omega)
end New1
end StrChars
namespace StrChars.Road
open Jvm Sem ClassFile Op Lib Jvm.Stand Jvm.Free Jvm.Free.XT
open Jvm.Lib.Cold (StaticIs)
abbrev ST : String := "java/lang/String"
/-- every table word that New1's law asks, flat -/
abbrev words : List Jvm.Cond := [.code New1.yN New1.yB 2 none, .initialized ST, .methodLink ST 27 New4.yN, .instanceMethod New4.yN,
  .code New4.yN New4.yB 6 none, .fieldLink ST 38 ST "COMPACT_STRINGS" "Z", .laysFinal ST ST "value" "[B", .fieldLink ST 9 ST "value" "[B", .laysFinal ST ST "coder" "B", .fieldLink ST 15 ST "coder" "B",
  .methodLink ST 1 Lib.objectInit, .instanceMethod Lib.objectInit, .code Lib.objectInit ⟨#[0xb1]⟩ 1 none, .methodLink ST 177 Cmp3.yN, .static Cmp3.yN, .methodLink ST 47 CodL.yN, .static CodL.yN,
  .code Cmp3.yN Cmp3.yB 6 (some (.array .byte)), .initialized U16, .arrayClass .byte, .methodLink U16 115 Cmp5.yN, .static Cmp5.yN, .code Cmp5.yN Cmp5.yB 7 (some .int), .code CodL.yN CodL.yB 2 (some .byte)]
theorem tab_of {a : Array Value} {s : State} (h : ∀ w ∈ words, w.before a s = true) : New1.tab.before a s = true := by
  have h5 : Cmp5.tab.before a s = true := unparts (wk h (.code Cmp5.yN Cmp5.yB 7 (some .int))) (wks h (.initialized Cmp5.yN.cls :: Cmp5.site))
  have hc : CodL.tab.before a s = true := unparts (wk h (.code CodL.yN CodL.yB 2 (some .byte))) (wks h (.initialized CodL.yN.cls :: CodL.site))
  have q5 : ∀ w ∈ Cmp5.tab :: words, w.before a s = true := fun w hw => (List.mem_cons.mp hw).elim (fun e => e ▸ h5) (h w)
  have h3 : Cmp3.tab.before a s = true := unparts (wk q5 (.code Cmp3.yN Cmp3.yB 6 (some (.array .byte)))) (wks q5 (.initialized Cmp3.yN.cls :: Cmp3.site))
  have q3 : ∀ w ∈ Cmp3.tab :: CodL.tab :: words, w.before a s = true := fun w hw => (List.mem_cons.mp hw).elim (fun e => e ▸ h3) fun hw => (List.mem_cons.mp hw).elim (fun e => e ▸ hc) (h w)
  have h4 : New4.tab.before a s = true := unparts (wk q3 (.code New4.yN New4.yB 6 none)) (wks q3 (.initialized New4.yN.cls :: New4.site))
  have q4 : ∀ w ∈ New4.tab :: words, w.before a s = true := fun w hw => (List.mem_cons.mp hw).elim (fun e => e ▸ h4) (h w)
  exact unparts (wk q4 (.code New1.yN New1.yB 2 none)) (wks q4 (.initialized New1.yN.cls :: New1.site))
/-- the words ride from the start Z to the walk's own state -/
theorem moved {Z s : State} {a0 args : Array Value} (hZ : Z.Warmed39 s.vm) (hw : ∀ d ∈ words, d.before a0 Z = true) : ∀ d ∈ words, d.before args s = true := fun d hd => by
  have q := hw d hd
  have t : ∀ d ∈ words, d = .arrayClass .byte ∨ (d.onTables && d.keepsFace) = true := by decide +kernel
  rcases t d hd with rfl | t
  · exact RoadKit.mvA hZ q
  · exact RoadKit.mv hZ q t
/-- WHAT COMES BACK, over the tables of the start Z: h the heap at the call, h' behind it -/
def Q (Z : State) (x : Addr) (A : Cell) (h : Heap) (v : Option Value) (h' : Heap) (L : List Loc) : Prop := v = none ∧ (∀ y ∈ L, y.base = x) ∧ RoadKit.Keep h h' [x] ∧ h'.size = h.size + 1 ∧ RoadKit.Exa Z h' x ST ∧ RoadKit.Fld Z h' x ST "value" "[B" (.ref h.size) ∧ RoadKit.Fld Z h' x ST "coder" "B" (.int 0) ∧
  (∃ V : Cell, RoadKit.Arr Z h' h.size V .byte ∧ V.vm = .none ∧ Z.vm.findClass "[B" = some V.cls ∧ V.slots.size = A.slots.size ∧ ∀ j, j < A.slots.size → V.slots[j]? = some (.int (lo8 (cv A j)))) ∧
  ∀ (O n d : String) (w : Value), RoadKit.Fld Z h x O n d w → RoadKit.slotOf Z O n d ≠ RoadKit.slotOf Z ST "value" "[B" → RoadKit.slotOf Z O n d ≠ RoadKit.slotOf Z ST "coder" "B" → RoadKit.Fld Z h' x O n d w
/-- **new String(chars) AT A CALL, IN THE ROAD'S FORM**: for specialBack behind newO: x the fresh String, b the char[] with the cell A -/
theorem back {p : Program} {l : Launch} {e : Env} {R : Room} {s : State} {args : Array Value} {below : List Frame} {len W : Nat} {Z : State} {a0 : Array Value} {h : Heap} (hZ : Z.Warmed39 s.vm) (hw : ∀ d ∈ words, d.before a0 Z = true) {kI : Nat} (wi : (Jvm.Cond.instantiable ST kI).before a0 Z = true)
    {x b : Addr} {A : Cell} {z : Int32} {v0 c0 : Value} (E : RoadKit.Exa Z h x ST) (V : RoadKit.Fld Z h x ST "value" "[B" v0) (C : RoadKit.Fld Z h x ST "coder" "B" c0) (K : RoadKit.Arr Z h b A .char) (hty : Typed .char A) (S : RoadKit.Sta Z h ST "COMPACT_STRINGS" "Z" (.int z)) (hz : ¬ z = 0)
    (l0 : 0 < A.slots.size) (l2 : A.slots.size ≤ 536870912) (hp : ∀ i, i < A.slots.size → ¬ 255 < cv A i) (hfr : 4 ≤ R.frames) (hlo : W + 65 ≤ R.locals) :
    Back l R p e below s args New1.yN len W (fun P a => a = #[.ref x, .ref b] ∧ P.U.heap = h ∧ P.cells + 1 ≤ R.cells ∧ P.slots + A.slots.size ≤ R.slots)
      (fun P _ v B => ∃ L, Q Z x A h v B.U.heap L ∧ B.locs = P.locs ++ L ∧ B.cells = P.cells + 1 ∧ B.slots = P.slots + A.slots.size) := by
  intro m meth c P g ig mk a X hg hsize hdg hW hn hp'
  obtain ⟨rfl, rfl, r1, r2⟩ := hp'
  have al : Z.vm.Alike P.U.vm := hZ.alike.trans X.warmed.alike
  obtain ⟨D, cfV, kV, iV, fV, hD, gV, stV, knV, obV, asV, slV⟩ := id V
  obtain ⟨D', cfC, kC, iC, fC, hD', gC, stC, -, -, asC, slC⟩ := id C
  cases hD.symm.trans hD'
  obtain ⟨D2, kD, e1, e2, e3, e4, e5⟩ := id E
  cases hD.symm.trans e1
  obtain ⟨c2, k2, i1, i2, i3, -⟩ := Cond.instantiable_spec wi
  cases e2.symm.trans i1
  cases e3.symm.trans i2
  obtain ⟨kU, u1, u2⟩ := al.2.2 _ _ e3
  have hB : Blank ST x D P.U := ⟨hD, ⟨knV, fun q hq => by rw [hq] at obV; cases obV⟩, by rw [al.findClass]; exact e2, kU, u1, by rw [u2]; exact i3, by rw [u2]; exact e5 i3⟩
  have F1 : Found ST "value" "[B" fV P.U := ⟨SBG.found_only al ⟨cfV, kV, iV, gV⟩, stV⟩
  have F2 : Found ST "coder" "B" fC P.U := ⟨SBG.found_only al ⟨cfC, kC, iC, gC⟩, stC⟩
  have hA : Ch b A P.U := ⟨⟨K.1, State.isArrayOf_alike al K.2.1, K.2.2, by omega⟩, hty⟩
  have hS : StaticIs P.U ST "COMPACT_STRINGS" "Z" (.int z) := by
    obtain ⟨cfS, iS, kS, fS, st, cS, t1, t2, t3, t4, t5, t6, t7⟩ := S
    exact StaticIs.there (s := { Z with heap := P.U.heap }) ⟨cfS, iS, kS, fS, st, cS, t1, t2, t3, t4, t5, (fun q => by rw [q] at t6; cases t6), t7⟩ al rfl
  obtain ⟨v, B, X', ⟨⟨hv, E', V', q1, q2, q3, q4, q5, q6, q7, q8, q9, q10, q11⟩, hl, hc, hs⟩, st⟩ := New1.pays x D fV fC b A z (tab_of (moved hZ hw)) hfr hlo m meth c P g ig mk _ X hg hsize hdg hW hn ⟨r1, r2, rfl, hB, F1, F2, hA, hS, hz, l0, l2, hp⟩
  have al' : Z.vm.Alike B.U.vm := hZ.alike.trans X'.warmed.alike
  have hsz : E'.slots.size = D.slots.size := by
    obtain ⟨-, -, -, kB, w1, w2, w3⟩ := q1
    obtain ⟨kB', y1, y2⟩ := al'.2.2 _ _ e3
    rw [q2.2.1] at w1
    cases w1.symm.trans y1
    rw [w3, e5 i3, y2]
  refine ⟨v, B, X', ⟨_, ⟨hv, ?_, ⟨by omega, fun y cy hy hn' => q10 y cy (by simpa using hn') hy, fun y cy hy => ?_⟩, q11, ⟨E', _, q1.1, by rw [q2.2.1]; exact e2, by rw [q2.2.1]; exact e3, by rw [q2.1]; exact obV, fun _ => by rw [hsz]; exact e5 i3⟩,
    ⟨E', cfV, kV, iV, fV, q1.1, gV, stV, by rw [q2.1]; exact knV, by rw [q2.1]; exact obV, by rw [q2.2.1]; exact asV, q3⟩, ⟨E', cfC, kC, iC, fC, q1.1, gC, stC, by rw [q2.1]; exact knV, by rw [q2.1]; exact obV, by rw [q2.2.1]; exact asC, q4⟩,
    ⟨V', ⟨q5.1, State.isArrayOf_alike al'.symm q5.2.1, q5.2.2.1⟩, q6, by rw [← al'.findClass]; exact q7, q8, fun j hj => by have := q9 j hj; rwa [Nat.zero_add] at this⟩, fun O n d w F n1 n2 => ?_⟩, hl, hc, hs⟩, st⟩
  · intro y hy
    simp only [List.mem_cons, List.not_mem_nil, or_false] at hy
    rcases hy with rfl | rfl <;> rfl
  · by_cases q : y = x
    · subst q
      cases hD.symm.trans hy
      exact ⟨E', q1.1, q2.2.1, q2.1, hsz⟩
    · exact ⟨cy, q10 y cy q hy, rfl, rfl, rfl⟩
  · obtain ⟨D3, cf, k, i, f, g1, g2, g3, g4, g5, g6, g7⟩ := F
    cases hD.symm.trans g1
    simp only [RoadKit.slotOf, g2, gV, gC, Option.map_some, Option.getD_some] at n1 n2
    exact ⟨E', cf, k, i, f, q1.1, g2, g3, by rw [q2.1]; exact g4, by rw [q2.1]; exact g5, by rw [q2.2.1]; exact g6, by rw [q2.2.2 f.slot (by simp [n1, n2])]; exact g7⟩
end StrChars.Road
namespace StrChars.Road
open Jvm Sem ClassFile Op Lib Jvm.Stand Jvm.Free Jvm.Free.XT
/-- WHAT COMES BACK, the byte[] as a list of values -/
def QA (Z : State) (x : Addr) (zn : Int32) (cs : List Int32) (h : Heap) (v : Option Value) (h' : Heap) (L : List Loc) : Prop := v = none ∧ (∀ y ∈ L, y.base = x) ∧ RoadKit.Keep h h' [x] ∧ h'.size = h.size + 1 ∧ RoadKit.Exa Z h' x ST ∧ RoadKit.Fld Z h' x ST "value" "[B" (.ref h.size) ∧ RoadKit.Fld Z h' x ST "coder" "B" (.int 0) ∧
  (∃ kb, Z.vm.findClass "[B" = some kb ∧ RoadKit.Arv Z h' h.size kb .byte zn (cs.map fun c => .int (lo8 c)) (.int 0)) ∧
  ∀ (O n d : String) (w : Value), RoadKit.Fld Z h x O n d w → RoadKit.slotOf Z O n d ≠ RoadKit.slotOf Z ST "value" "[B" → RoadKit.slotOf Z O n d ≠ RoadKit.slotOf Z ST "coder" "B" → RoadKit.Fld Z h' x O n d w
/-- **new String(chars) AT A CALL, THE ARRAYS AS LISTS**: the char[] at b holds cs, not empty, no char above 255 -/
theorem backArv {p : Program} {l : Launch} {e : Env} {R : Room} {s : State} {args : Array Value} {below : List Frame} {len W : Nat} {Z : State} {a0 : Array Value} {h : Heap} (hZ : Z.Warmed39 s.vm) (hw : ∀ d ∈ words, d.before a0 Z = true) {kI : Nat} (wi : (Jvm.Cond.instantiable ST kI).before a0 Z = true)
    {x b : Addr} {k : ClassId} {zn z : Int32} {cs : List Int32} {dv v0 c0 : Value} (E : RoadKit.Exa Z h x ST) (V : RoadKit.Fld Z h x ST "value" "[B" v0) (C : RoadKit.Fld Z h x ST "coder" "B" c0) (K : RoadKit.Arv Z h b k .char zn (cs.map Value.int) dv) (S : RoadKit.Sta Z h ST "COMPACT_STRINGS" "Z" (.int z)) (hz : ¬ z = 0)
    (hlen : zn.toNatClampNeg = cs.length) (h0 : 0 < cs.length) (hbig : cs.length ≤ 536870912) (hall : ∀ c ∈ cs, ¬ 255 < c) (hfr : 4 ≤ R.frames) (hlo : W + 65 ≤ R.locals) :
    Back l R p e below s args New1.yN len W (fun P a => a = #[.ref x, .ref b] ∧ P.U.heap = h ∧ P.cells + 1 ≤ R.cells ∧ P.slots + cs.length ≤ R.slots)
      (fun P _ v B => ∃ L, QA Z x zn cs h v B.U.heap L ∧ B.locs = P.locs ++ L ∧ B.cells = P.cells + 1 ∧ B.slots = P.slots + cs.length) := by
  obtain ⟨A, K1, K2, K3, K4, K5, K6⟩ := K
  have e : A.slots.size = cs.length := K3.trans hlen
  have hat : ∀ (i : Nat) (hi : i < cs.length), A.slots[i]? = some (.int cs[i]) := fun i hi => by rw [K5 i (by omega)]; simp [List.getD_eq_getElem?_getD, hi]
  have hcv : ∀ (i : Nat) (hi : i < cs.length), cv A i = cs[i] := fun i hi => by unfold cv; rw [hat i hi]
  have hty : Typed .char A := fun i v hv => by
    have hi : i < A.slots.size := (Array.getElem?_eq_some_iff.mp hv).1
    have q := K5 i hi
    rw [hv] at q
    rw [Option.some.inj q]
    exact K6 i hi
  refine Back.mono (back hZ hw wi E V C K1 hty S hz (by omega) (by omega) (fun i hi => by rw [hcv i (by omega)]; exact hall _ (List.getElem_mem _)) hfr hlo) (fun P a hp => ⟨hp.1, hp.2.1, hp.2.2.1, by rw [e]; exact hp.2.2.2⟩) (fun P a v B hp hq => ?_)
  obtain ⟨L, ⟨q1, q2, q3, q4, q5, q6, q7, ⟨V', v1, v2, v3, v4, v5⟩, q9⟩, hl, hc, hs⟩ := hq
  refine ⟨L, ⟨q1, q2, q3, q4, q5, q6, q7, ⟨V'.cls, v3, V', v1, rfl, by rw [v4, e, hlen], K4, fun i hi => ?_, fun i hi => ?_⟩, q9⟩, hl, hc, by rw [hs, e]⟩
  · have hi' : i < cs.length := by omega
    rw [v5 i (by omega), hcv i hi']; simp [List.getD_eq_getElem?_getD, hi']
  · have hi' : i < cs.length := by omega
    simp only [List.getD_eq_getElem?_getD, List.getElem?_map, List.getElem?_eq_getElem hi', Option.map_some, Option.getD_some]
    exact fits_lo8 _
end StrChars.Road
namespace StrChars.Road
open Jvm Sem ClassFile Op Lib Jvm.Stand Jvm.Free Jvm.Free.XT
/-- WHAT COMES BACK, in the writer's own shape -/
def QV (Z : State) (x : Addr) (N : Int32) (bs : List Int32) (h : Heap) (n0 : Nat) (v : Option Value) (h' : Heap) (L : List Loc) : Prop := v = none ∧ RoadKit.Fr n0 L ∧ RoadKit.Keep h h' [x] ∧ RoadKit.Exa Z h' x ST ∧ RoadKit.Fld Z h' x ST "coder" "B" (.int 0) ∧
  ∃ (t : Addr) (kb : ClassId), n0 ≤ t ∧ h.size ≤ t ∧ ¬ t = x ∧ RoadKit.Fld Z h' x ST "value" "[B" (.ref t) ∧ RoadKit.Arv Z h' t kb .byte N (bs.map Value.int) (.int 0)
/-- **new String(chars) AT A CALL, FOR THE WRITER**: a char[] of n known ints, each 0 to 255 -/
theorem backV {p : Program} {l : Launch} {e : Env} {R : Room} {s : State} {args : Array Value} {below : List Frame} {len W : Nat} {Z : State} {a0 : Array Value} {h : Heap} (hZ : Z.Warmed39 s.vm) (hw : ∀ d ∈ words, d.before a0 Z = true) {kI : Nat} (wi : (Jvm.Cond.instantiable ST kI).before a0 Z = true)
    {x b : Addr} {kC : ClassId} {cs bs : List Int32} {d v0 c0 : Value} {z N : Int32} {n n0 : Nat} (hx0 : n0 ≤ x) (hh0 : n0 ≤ h.size) (E : RoadKit.Exa Z h x ST) (V : RoadKit.Fld Z h x ST "value" "[B" v0) (C : RoadKit.Fld Z h x ST "coder" "B" c0) (K : RoadKit.Arv Z h b kC .char N (cs.map Value.int) d) (S : RoadKit.Sta Z h ST "COMPACT_STRINGS" "Z" (.int z)) (hz : ¬ z = 0)
    (hn : cs.length = n) (hN : N = Int32.ofNat n) (l0 : 0 < n) (l2 : n ≤ 4000) (hp : ∀ c ∈ cs, ¬ c < 0 ∧ ¬ (255 : Int32) < c) (hb : bs = cs.map (fun c => c.toInt8.toInt32)) (hfr : 4 ≤ R.frames) (hlo : W + 65 ≤ R.locals) :
    Back l R p e below s args (⟨"java/lang/String", "<init>", "([C)V"⟩ : MethodName) len W (fun P a => a = #[.ref x, .ref b] ∧ P.U.heap = h ∧ P.cells + 1 ≤ R.cells ∧ P.slots + n ≤ R.slots)
      (fun P _ v B => ∃ L, QV Z x N bs h n0 v B.U.heap L ∧ B.locs = P.locs ++ L ∧ B.cells = P.cells + 1 ∧ B.slots = P.slots + n) := by
  subst hn hN hb
  refine Back.mono (backArv hZ hw wi E V C K S hz (n32 (by omega)) l0 (by omega) (fun c hc => (hp c hc).2) hfr hlo) (fun P a hp => hp) (fun P a v B hp hq => ?_)
  obtain ⟨L, ⟨q1, q2, q3, q4, q5, q6, q7, ⟨kb, v1, v2⟩, q9⟩, hl, hc, hs⟩ := hq
  exact ⟨L, ⟨q1, fun y hy => by rw [q2 y hy]; exact hx0, q3, q5, q7, h.size, kb, hh0, Nat.le_refl _, Nat.ne_of_gt E.lt, q6, by rw [List.map_map]; exact v2⟩, hl, hc, hs⟩
end StrChars.Road
end Jvm.Pilot.@@N@@
namespace Jvm.Pilot.@@N@@
open Jvm Jvm.ClassFile Sem Op Lib Jvm.Free Jvm.Stand Jvm.LawKit Jvm.RoadKit Bundle Jvm.Pilot.@@N@@.Jvm.D
def own_Done (p : Program) (e : Env) (below : List Frame) (P : Outcome → State → Prop) (S : State) : Prop := ∃ s₂ o, Steps p.tables e below S s₂ ∧ s₂.status = .running ∧ Ended s₂ below o ∧ P o s₂
section Own
variable {p : Program} {e : Env} {below : List Frame} {P : Outcome → State → Prop} {S S' : State}
theorem own_open (d : own_Done p e below P S) : ∃ s₂ o, Steps p.tables e below S s₂ ∧ s₂.status = .running ∧ Ended s₂ below o ∧ P o s₂ := d
theorem own_via (k : ∀ t, Steps p.tables e below S' t → Steps p.tables e below S t) (d : own_Done p e below P S') : own_Done p e below P S := by
  obtain ⟨s₂, o, h1, h2⟩ := d
  exact ⟨s₂, o, k _ h1, h2⟩
theorem own_tr (k : Steps p.tables e below S S') (d : own_Done p e below P S') : own_Done p e below P S := own_via (fun _ h => k.trans h) d
theorem own_ret {l : Launch} {R : Room} {s : State} {m : MethodId} {args : Array Value} {meth : Method} {c : Code} {T : State} {locs : List Loc} {cells slots : Nat} {Q : Option Value → Heap → List Loc → Prop} {C N : Nat} (X : Stand p l e R s m args below meth c T locs cells slots) {v : Option Value} (hv : meth.sig.returnType = none → v = none) (hlocks : meth.locks = false) (hq : Q v T.heap locs) (hc : cells ≤ C) (hs : slots ≤ N)
    (k : ∀ fs, (∀ (f : JFrame) (acts : List Action), f.method = m → f.locked = none → f.entered = [] → (doReturn e (T.setTop f) acts v).1 = T.setFrames fs) → Steps p.tables e below S (T.setFrames fs)) :
    own_Done p e below (fun o U' => ∃ v L, o = .returned v ∧ Q v U'.heap L ∧ FrameEnd s o U' L C N) S := by
  obtain ⟨fs, hr, hrun, hended, hW, hsame⟩ := X.leave hv hlocks
  exact ⟨_, _, k fs hr, hrun, hended, v, locs, rfl, hq, ⟨_, rfl⟩, hW, hsame.mono hc hs⟩
theorem own_nface {args : Array Value} {s : State} {C : String} {y z : MethodName} (hsel : (Cond.selects C y y).before args s = true) (e : z.cls = y.cls) : NotFace s z := fun r0 h0 => by
  obtain ⟨c2, r2, m2, q1, q2, q3, q4, kP, hkP, hkPi⟩ := Cond.selects_spec hsel
  have e1 := findClass_of_methodNamed h0
  have e2 := findClass_of_methodNamed q3
  rw [e] at e1
  have e3 : r0.cls = m2.cls := Option.some.inj (e1.symm.trans e2)
  exact ⟨kP, by rw [e3]; exact hkP, hkPi⟩
theorem own_sameM {args : Array Value} {s : State} {y : MethodName} (h1 : (Cond.instanceMethod y).before args s = true) (hnf : NotFace s y) (hy : y.cls ≠ "java/lang/invoke/MethodHandle" ∧ y.cls ≠ "java/lang/invoke/VarHandle") : (Cond.sameMethod y.cls y.cls y.name y.desc).before args s = true := by
  obtain ⟨mk, meth, hn, hm, -, -⟩ := Cond.instanceMethod_spec h1
  have e1 := findClass_of_methodNamed hn
  have e2 := State.methodFound?_of_named hn hy
  obtain ⟨k, hk, hi⟩ := hnf _ hn
  have e3 : s.methodNamed? ⟨y.cls, y.name, y.desc⟩ = some mk := hn
  simp [Cond.before, Cond.holds, Cond.value, e1, e2, e3, hk, hi]
theorem own_declares {args : Array Value} {s : State} {y : MethodName} {bytes : ByteArray} {maxL : Nat} {ret : Option FieldType} (h1 : (Cond.instanceMethod y).before args s = true) (h2 : (Cond.code y bytes maxL ret).before args s = true) : (Cond.declares y).before args s = true := by
  obtain ⟨mk, meth, hn, hm, hst, -⟩ := Cond.instanceMethod_spec h1
  obtain ⟨meth', c, hm', -, -, -, -, -, -, hsig⟩ := Cond.code_spec hn h2
  cases hm.symm.trans hm'
  simp [Cond.before, Cond.holds, Cond.value, hn, hm, hst, hsig]
theorem own_ltA {a : Addr} {n : Nat} (h : n > a) : a < n := h
theorem own_shr0 (x : Int32) : x >>> ((0 : Int32) &&& 31) = x := by rw [show ((0 : Int32) &&& 31) = 0 from by decide]; simp
theorem own_shl0 (x : Int32) : x <<< ((0 : Int32) &&& 31) = x := by rw [show ((0 : Int32) &&& 31) = 0 from by decide]; simp
theorem own_sub0 (x : Int32) : x - (0 : Int32) = x := by simp
abbrev own_cp (vd vs : List Value) (dp sp nn : Int32) : List Value := vd.take dp.toNatClampNeg ++ ((List.range nn.toNatClampNeg).map fun i => vs.getD (sp.toNatClampNeg + i) (.int (0 : Int32))) ++ vd.drop (dp.toNatClampNeg + nn.toNatClampNeg)
theorem own_inst {Z : State} {h : Heap} {a : Addr} {C own K : String} {idx : Nat} {a0 : Array Value} {d : ClassId} (E : Exa Z h a C) (w : (Cond.classLink own idx K).before a0 Z = true) (hd : Z.vm.findClass own = some d) : Ins Z h a K true ∨ ∃ c t, Z.vm.findClass C = some c ∧ Z.vm.findClass K = some t ∧ Z.vm.assignable c t = false := by
  obtain ⟨cell, k, h1, h2, h3, h4, h5⟩ := E
  obtain ⟨cT, hT, -⟩ := Cond.classLink_spec hd w {} rfl
  cases hb : Z.vm.assignable cell.cls cT
  · exact Or.inr ⟨cell.cls, cT, h2, hT, hb⟩
  · exact Or.inl ⟨cell, cT, h1, hT, by simp [h4, hb]⟩
end Own
abbrev mt0 : MethodName := (⟨"java/util/Objects", "requireNonNull", "(Ljava/lang/Object;Ljava/lang/String;)Ljava/lang/Object;"⟩ : MethodName)
theorem pn_java_util_Objects : plainName "java/util/Objects" = true := by first | (simp [plainName, overriddenIn]; done) | decide +kernel
theorem ef_own_rnn (m : MethodId) (x0 : Addr) (x1 : Addr) : entryFrame m #[(.ref x0), (.ref x1)] 2 = mkF m 0 #[.val (.ref x0), .val (.ref x1)] [] := by first | (simp [entryFrame, mkF, argsToLocals, Value.category]; done) | rfl
theorem d4_0 : decode jdk_31_method_11_code 0 = .ok (.aload_n 0, 1) := by decide +kernel
theorem d4_1 : decode jdk_31_method_11_code 1 = .ok (.ifnonnull 12, 3) := by decide +kernel
theorem d4_13 : decode jdk_31_method_11_code 13 = .ok (.aload_n 0, 1) := by decide +kernel
theorem d4_14 : decode jdk_31_method_11_code 14 = .ok (.areturn, 1) := by decide +kernel
abbrev mt1 : MethodName := (⟨"java/lang/String", "isEmpty", "()Z"⟩ : MethodName)
theorem pn_java_lang_String : plainName "java/lang/String" = true := by first | (simp [plainName, overriddenIn]; done) | decide +kernel
theorem ef_own_empty (m : MethodId) (x0 : Addr) : entryFrame m #[(.ref x0)] 1 = mkF m 0 #[.val (.ref x0)] [] := by first | (simp [entryFrame, mkF, argsToLocals, Value.category]; done) | rfl
theorem d5_0 : decode jdk_42_method_55_code 0 = .ok (.aload_n 0, 1) := by decide +kernel
theorem d5_1 : decode jdk_42_method_55_code 1 = .ok (.getfield 9, 3) := by decide +kernel
theorem wd54 {Z : State} {a0 : Array Value} (hw : ∀ d ∈ tables_1, d.before a0 Z = true) : ((Jvm.Cond.fieldLink "java/lang/String" (9 : Nat) "java/lang/String" "value" "[B") : Jvm.Cond).before a0 Z = true := hw _ (List.mem_of_getElem? (i := 54) rfl)
theorem d5_4 : decode jdk_42_method_55_code 4 = .ok (.arraylength, 1) := by decide +kernel
theorem d5_5 : decode jdk_42_method_55_code 5 = .ok (.ifCond .ne 7, 3) := by decide +kernel
theorem d5_8 : decode jdk_42_method_55_code 8 = .ok (.iconst 1, 1) := by decide +kernel
theorem d5_9 : decode jdk_42_method_55_code 9 = .ok (.goto 4, 3) := by decide +kernel
theorem d5_13 : decode jdk_42_method_55_code 13 = .ok (.ireturn, 1) := by decide +kernel
theorem d5_12 : decode jdk_42_method_55_code 12 = .ok (.iconst 0, 1) := by decide +kernel
abbrev mt2 : MethodName := (⟨"com/example/object_access_rules/objectaccessrules/Result", "<init>", "(Lcom/example/object_access_rules/objectaccessrules/Decision;Lcom/example/object_access_rules/objectaccessrules/StatusCode;Ljava/lang/String;Ljava/lang/String;Lcom/example/object_access_rules/objectaccessrules/Result;)V"⟩ : MethodName)
theorem pn_com_example_object_access_rules_objectaccessrules_Result : plainName "com/example/object_access_rules/objectaccessrules/Result" = true := by first | (simp [plainName, overriddenIn]; done) | decide +kernel
theorem ef_own_r5N (m : MethodId) (x0 : Addr) (x1 : Addr) (x2 : Addr) (x3 : Addr) : entryFrame m #[(.ref x0), (.ref x1), (.ref x2), (.ref x3), .null, .null] 6 = mkF m 0 #[.val (.ref x0), .val (.ref x1), .val (.ref x2), .val (.ref x3), .val .null, .val .null] [] := by first | (simp [entryFrame, mkF, argsToLocals, Value.category]; done) | rfl
theorem wd17 {Z : State} {a0 : Array Value} (hw : ∀ d ∈ tables_1, d.before a0 Z = true) : ((Jvm.Cond.instantiable "com/example/object_access_rules/objectaccessrules/Result" (5 : Nat)) : Jvm.Cond).before a0 Z = true := hw _ (List.mem_of_getElem? (i := 17) rfl)
theorem wd10 {Z : State} {a0 : Array Value} (hw : ∀ d ∈ tables_1, d.before a0 Z = true) : ((Jvm.Cond.instantiable "java/lang/String" (4 : Nat)) : Jvm.Cond).before a0 Z = true := hw _ (List.mem_of_getElem? (i := 10) rfl)
theorem d2_0 : decode prog_37_method_3_code 0 = .ok (.aload_n 0, 1) := by decide +kernel
theorem d2_1 : decode prog_37_method_3_code 1 = .ok (.invokespecial 12, 3) := by decide +kernel
theorem wd25 {Z : State} {a0 : Array Value} (hw : ∀ d ∈ tables_1, d.before a0 Z = true) : ((Jvm.Cond.methodLink "com/example/object_access_rules/objectaccessrules/Result" (12 : Nat) ({ cls := "java/lang/Object", name := "<init>", desc := "()V" } : Jvm.MethodName)) : Jvm.Cond).before a0 Z = true := hw _ (List.mem_of_getElem? (i := 25) rfl)
theorem wd26 {Z : State} {a0 : Array Value} (hw : ∀ d ∈ tables_1, d.before a0 Z = true) : ((Jvm.Cond.instanceMethod ({ cls := "java/lang/Object", name := "<init>", desc := "()V" } : Jvm.MethodName)) : Jvm.Cond).before a0 Z = true := hw _ (List.mem_of_getElem? (i := 26) rfl)
theorem wd27 {Z : State} {a0 : Array Value} (hw : ∀ d ∈ tables_1, d.before a0 Z = true) : ((Jvm.Cond.code ({ cls := "java/lang/Object", name := "<init>", desc := "()V" } : Jvm.MethodName) object_method_1_code (1 : Nat) (Option.none : Option Jvm.ClassFile.FieldType)) : Jvm.Cond).before a0 Z = true := hw _ (List.mem_of_getElem? (i := 27) rfl)
theorem d2_4 : decode prog_37_method_3_code 4 = .ok (.aload_n 0, 1) := by decide +kernel
theorem d2_5 : decode prog_37_method_3_code 5 = .ok (.aload_n 1, 1) := by decide +kernel
theorem d2_6 : decode prog_37_method_3_code 6 = .ok (.ldc 17, 2) := by decide +kernel
theorem wd28 {Z : State} {a0 : Array Value} (hw : ∀ d ∈ tables_1, d.before a0 Z = true) : ((Jvm.Cond.stringLink "com/example/object_access_rules/objectaccessrules/Result" (17 : Nat) "decision") : Jvm.Cond).before a0 Z = true := hw _ (List.mem_of_getElem? (i := 28) rfl)
theorem d2_8 : decode prog_37_method_3_code 8 = .ok (.invokestatic 19, 3) := by decide +kernel
theorem wd29 {Z : State} {a0 : Array Value} (hw : ∀ d ∈ tables_1, d.before a0 Z = true) : ((Jvm.Cond.methodLink "com/example/object_access_rules/objectaccessrules/Result" (19 : Nat) ({ cls := "java/util/Objects", name := "requireNonNull", desc := "(Ljava/lang/Object;Ljava/lang/String;)Ljava/lang/Object;" } : Jvm.MethodName)) : Jvm.Cond).before a0 Z = true := hw _ (List.mem_of_getElem? (i := 29) rfl)
theorem wd32 {Z : State} {a0 : Array Value} (hw : ∀ d ∈ tables_1, d.before a0 Z = true) : ((Jvm.Cond.code ({ cls := "java/util/Objects", name := "requireNonNull", desc := "(Ljava/lang/Object;Ljava/lang/String;)Ljava/lang/Object;" } : Jvm.MethodName) jdk_31_method_11_code (2 : Nat) (Option.some (Jvm.ClassFile.FieldType.object "java/lang/Object"))) : Jvm.Cond).before a0 Z = true := hw _ (List.mem_of_getElem? (i := 32) rfl)
theorem wd31 {Z : State} {a0 : Array Value} (hw : ∀ d ∈ tables_1, d.before a0 Z = true) : ((Jvm.Cond.initialized "java/util/Objects") : Jvm.Cond).before a0 Z = true := hw _ (List.mem_of_getElem? (i := 31) rfl)
theorem pd__Ljava_lang_Object_Ljava_lang_String__Ljava_lang_Object__5105 : parseMethodDescriptor "(Ljava/lang/Object;Ljava/lang/String;)Ljava/lang/Object;" = some ⟨[(.object "java/lang/Object"), (.object "java/lang/String")], some (.object "java/lang/Object")⟩ := by decide +kernel
theorem wd30 {Z : State} {a0 : Array Value} (hw : ∀ d ∈ tables_1, d.before a0 Z = true) : ((Jvm.Cond.static ({ cls := "java/util/Objects", name := "requireNonNull", desc := "(Ljava/lang/Object;Ljava/lang/String;)Ljava/lang/Object;" } : Jvm.MethodName)) : Jvm.Cond).before a0 Z = true := hw _ (List.mem_of_getElem? (i := 30) rfl)
theorem d2_11 : decode prog_37_method_3_code 11 = .ok (.checkcast 25, 3) := by decide +kernel
theorem wd33 {Z : State} {a0 : Array Value} (hw : ∀ d ∈ tables_1, d.before a0 Z = true) : ((Jvm.Cond.classLink "com/example/object_access_rules/objectaccessrules/Result" (25 : Nat) "com/example/object_access_rules/objectaccessrules/Decision") : Jvm.Cond).before a0 Z = true := hw _ (List.mem_of_getElem? (i := 33) rfl)
theorem d2_14 : decode prog_37_method_3_code 14 = .ok (.putfield 27, 3) := by decide +kernel
theorem wd35 {Z : State} {a0 : Array Value} (hw : ∀ d ∈ tables_1, d.before a0 Z = true) : ((Jvm.Cond.fieldLink "com/example/object_access_rules/objectaccessrules/Result" (27 : Nat) "com/example/object_access_rules/objectaccessrules/Result" "decision" "Lcom/example/object_access_rules/objectaccessrules/Decision;") : Jvm.Cond).before a0 Z = true := hw _ (List.mem_of_getElem? (i := 35) rfl)
theorem wd36 {Z : State} {a0 : Array Value} (hw : ∀ d ∈ tables_1, d.before a0 Z = true) : ((Jvm.Cond.laysFinal "com/example/object_access_rules/objectaccessrules/Result" "com/example/object_access_rules/objectaccessrules/Result" "decision" "Lcom/example/object_access_rules/objectaccessrules/Decision;") : Jvm.Cond).before a0 Z = true := hw _ (List.mem_of_getElem? (i := 36) rfl)
theorem d2_17 : decode prog_37_method_3_code 17 = .ok (.aload_n 0, 1) := by decide +kernel
theorem d2_18 : decode prog_37_method_3_code 18 = .ok (.aload_n 2, 1) := by decide +kernel
theorem d2_19 : decode prog_37_method_3_code 19 = .ok (.ldc 30, 2) := by decide +kernel
theorem wd37 {Z : State} {a0 : Array Value} (hw : ∀ d ∈ tables_1, d.before a0 Z = true) : ((Jvm.Cond.stringLink "com/example/object_access_rules/objectaccessrules/Result" (30 : Nat) "status") : Jvm.Cond).before a0 Z = true := hw _ (List.mem_of_getElem? (i := 37) rfl)
theorem d2_21 : decode prog_37_method_3_code 21 = .ok (.invokestatic 19, 3) := by decide +kernel
theorem d2_24 : decode prog_37_method_3_code 24 = .ok (.checkcast 32, 3) := by decide +kernel
theorem wd38 {Z : State} {a0 : Array Value} (hw : ∀ d ∈ tables_1, d.before a0 Z = true) : ((Jvm.Cond.classLink "com/example/object_access_rules/objectaccessrules/Result" (32 : Nat) "com/example/object_access_rules/objectaccessrules/StatusCode") : Jvm.Cond).before a0 Z = true := hw _ (List.mem_of_getElem? (i := 38) rfl)
theorem d2_27 : decode prog_37_method_3_code 27 = .ok (.putfield 34, 3) := by decide +kernel
theorem wd40 {Z : State} {a0 : Array Value} (hw : ∀ d ∈ tables_1, d.before a0 Z = true) : ((Jvm.Cond.fieldLink "com/example/object_access_rules/objectaccessrules/Result" (34 : Nat) "com/example/object_access_rules/objectaccessrules/Result" "status" "Lcom/example/object_access_rules/objectaccessrules/StatusCode;") : Jvm.Cond).before a0 Z = true := hw _ (List.mem_of_getElem? (i := 40) rfl)
theorem wd41 {Z : State} {a0 : Array Value} (hw : ∀ d ∈ tables_1, d.before a0 Z = true) : ((Jvm.Cond.laysFinal "com/example/object_access_rules/objectaccessrules/Result" "com/example/object_access_rules/objectaccessrules/Result" "status" "Lcom/example/object_access_rules/objectaccessrules/StatusCode;") : Jvm.Cond).before a0 Z = true := hw _ (List.mem_of_getElem? (i := 41) rfl)
theorem d2_30 : decode prog_37_method_3_code 30 = .ok (.aload_n 0, 1) := by decide +kernel
theorem d2_31 : decode prog_37_method_3_code 31 = .ok (.aload_n 3, 1) := by decide +kernel
theorem d2_32 : decode prog_37_method_3_code 32 = .ok (.ldc 37, 2) := by decide +kernel
theorem wd42 {Z : State} {a0 : Array Value} (hw : ∀ d ∈ tables_1, d.before a0 Z = true) : ((Jvm.Cond.stringLink "com/example/object_access_rules/objectaccessrules/Result" (37 : Nat) "message") : Jvm.Cond).before a0 Z = true := hw _ (List.mem_of_getElem? (i := 42) rfl)
theorem d2_34 : decode prog_37_method_3_code 34 = .ok (.invokestatic 19, 3) := by decide +kernel
theorem d2_37 : decode prog_37_method_3_code 37 = .ok (.checkcast 39, 3) := by decide +kernel
theorem wd43 {Z : State} {a0 : Array Value} (hw : ∀ d ∈ tables_1, d.before a0 Z = true) : ((Jvm.Cond.classLink "com/example/object_access_rules/objectaccessrules/Result" (39 : Nat) "java/lang/String") : Jvm.Cond).before a0 Z = true := hw _ (List.mem_of_getElem? (i := 43) rfl)
theorem d2_40 : decode prog_37_method_3_code 40 = .ok (.putfield 41, 3) := by decide +kernel
theorem wd45 {Z : State} {a0 : Array Value} (hw : ∀ d ∈ tables_1, d.before a0 Z = true) : ((Jvm.Cond.fieldLink "com/example/object_access_rules/objectaccessrules/Result" (41 : Nat) "com/example/object_access_rules/objectaccessrules/Result" "message" "Ljava/lang/String;") : Jvm.Cond).before a0 Z = true := hw _ (List.mem_of_getElem? (i := 45) rfl)
theorem wd46 {Z : State} {a0 : Array Value} (hw : ∀ d ∈ tables_1, d.before a0 Z = true) : ((Jvm.Cond.laysFinal "com/example/object_access_rules/objectaccessrules/Result" "com/example/object_access_rules/objectaccessrules/Result" "message" "Ljava/lang/String;") : Jvm.Cond).before a0 Z = true := hw _ (List.mem_of_getElem? (i := 46) rfl)
theorem d2_43 : decode prog_37_method_3_code 43 = .ok (.aload_n 1, 1) := by decide +kernel
theorem d2_44 : decode prog_37_method_3_code 44 = .ok (.getstatic 44, 3) := by decide +kernel
theorem wd47 {Z : State} {a0 : Array Value} (hw : ∀ d ∈ tables_1, d.before a0 Z = true) : ((Jvm.Cond.fieldLink "com/example/object_access_rules/objectaccessrules/Result" (44 : Nat) "com/example/object_access_rules/objectaccessrules/Decision" "INDETERMINATE" "Lcom/example/object_access_rules/objectaccessrules/Decision;") : Jvm.Cond).before a0 Z = true := hw _ (List.mem_of_getElem? (i := 47) rfl)
theorem d2_47 : decode prog_37_method_3_code 47 = .ok (.if_acmp .ne 7, 3) := by decide +kernel
theorem d2_50 : decode prog_37_method_3_code 50 = .ok (.iconst 1, 1) := by decide +kernel
theorem d2_51 : decode prog_37_method_3_code 51 = .ok (.goto 4, 3) := by decide +kernel
theorem d2_55 : decode prog_37_method_3_code 55 = .ok (.aload_n 2, 1) := by decide +kernel
theorem d2_56 : decode prog_37_method_3_code 56 = .ok (.getstatic 47, 3) := by decide +kernel
theorem wd48 {Z : State} {a0 : Array Value} (hw : ∀ d ∈ tables_1, d.before a0 Z = true) : ((Jvm.Cond.fieldLink "com/example/object_access_rules/objectaccessrules/Result" (47 : Nat) "com/example/object_access_rules/objectaccessrules/StatusCode" "OK" "Lcom/example/object_access_rules/objectaccessrules/StatusCode;") : Jvm.Cond).before a0 Z = true := hw _ (List.mem_of_getElem? (i := 48) rfl)
theorem d2_59 : decode prog_37_method_3_code 59 = .ok (.if_acmp .ne 7, 3) := by decide +kernel
theorem d2_66 : decode prog_37_method_3_code 66 = .ok (.iconst 0, 1) := by decide +kernel
theorem d2_67 : decode prog_37_method_3_code 67 = .ok (.if_icmp .ne 24, 3) := by decide +kernel
theorem d2_91 : decode prog_37_method_3_code 91 = .ok (.aload_n 1, 1) := by decide +kernel
theorem d2_92 : decode prog_37_method_3_code 92 = .ok (.getstatic 44, 3) := by decide +kernel
theorem d2_95 : decode prog_37_method_3_code 95 = .ok (.if_acmp .eq 28, 3) := by decide +kernel
theorem d2_123 : decode prog_37_method_3_code 123 = .ok (.aload_n 0, 1) := by decide +kernel
theorem d2_124 : decode prog_37_method_3_code 124 = .ok (.aload 4, 2) := by decide +kernel
theorem d2_126 : decode prog_37_method_3_code 126 = .ok (.putfield 71, 3) := by decide +kernel
theorem wd55 {Z : State} {a0 : Array Value} (hw : ∀ d ∈ tables_1, d.before a0 Z = true) : ((Jvm.Cond.fieldLink "com/example/object_access_rules/objectaccessrules/Result" (71 : Nat) "com/example/object_access_rules/objectaccessrules/Result" "step" "Ljava/lang/String;") : Jvm.Cond).before a0 Z = true := hw _ (List.mem_of_getElem? (i := 55) rfl)
theorem wd56 {Z : State} {a0 : Array Value} (hw : ∀ d ∈ tables_1, d.before a0 Z = true) : ((Jvm.Cond.laysFinal "com/example/object_access_rules/objectaccessrules/Result" "com/example/object_access_rules/objectaccessrules/Result" "step" "Ljava/lang/String;") : Jvm.Cond).before a0 Z = true := hw _ (List.mem_of_getElem? (i := 56) rfl)
theorem d2_129 : decode prog_37_method_3_code 129 = .ok (.aload_n 0, 1) := by decide +kernel
theorem d2_130 : decode prog_37_method_3_code 130 = .ok (.aload 5, 2) := by decide +kernel
theorem d2_132 : decode prog_37_method_3_code 132 = .ok (.putfield 74, 3) := by decide +kernel
theorem wd57 {Z : State} {a0 : Array Value} (hw : ∀ d ∈ tables_1, d.before a0 Z = true) : ((Jvm.Cond.fieldLink "com/example/object_access_rules/objectaccessrules/Result" (74 : Nat) "com/example/object_access_rules/objectaccessrules/Result" "below" "Lcom/example/object_access_rules/objectaccessrules/Result;") : Jvm.Cond).before a0 Z = true := hw _ (List.mem_of_getElem? (i := 57) rfl)
theorem wd58 {Z : State} {a0 : Array Value} (hw : ∀ d ∈ tables_1, d.before a0 Z = true) : ((Jvm.Cond.laysFinal "com/example/object_access_rules/objectaccessrules/Result" "com/example/object_access_rules/objectaccessrules/Result" "below" "Lcom/example/object_access_rules/objectaccessrules/Result;") : Jvm.Cond).before a0 Z = true := hw _ (List.mem_of_getElem? (i := 58) rfl)
theorem d2_135 : decode prog_37_method_3_code 135 = .ok (.return_, 1) := by decide +kernel
theorem d2_54 : decode prog_37_method_3_code 54 = .ok (.iconst 0, 1) := by decide +kernel
theorem d2_62 : decode prog_37_method_3_code 62 = .ok (.iconst 1, 1) := by decide +kernel
theorem d2_63 : decode prog_37_method_3_code 63 = .ok (.goto 4, 3) := by decide +kernel
theorem d2_98 : decode prog_37_method_3_code 98 = .ok (.aload_n 3, 1) := by decide +kernel
theorem d2_99 : decode prog_37_method_3_code 99 = .ok (.invokevirtual 66, 3) := by decide +kernel
theorem wd49 {Z : State} {a0 : Array Value} (hw : ∀ d ∈ tables_1, d.before a0 Z = true) : ((Jvm.Cond.methodLink "com/example/object_access_rules/objectaccessrules/Result" (66 : Nat) ({ cls := "java/lang/String", name := "isEmpty", desc := "()Z" } : Jvm.MethodName)) : Jvm.Cond).before a0 Z = true := hw _ (List.mem_of_getElem? (i := 49) rfl)
theorem wd53 {Z : State} {a0 : Array Value} (hw : ∀ d ∈ tables_1, d.before a0 Z = true) : ((Jvm.Cond.code ({ cls := "java/lang/String", name := "isEmpty", desc := "()Z" } : Jvm.MethodName) jdk_42_method_55_code (1 : Nat) (Option.some Jvm.ClassFile.FieldType.boolean)) : Jvm.Cond).before a0 Z = true := hw _ (List.mem_of_getElem? (i := 53) rfl)
theorem wd9 {Z : State} {a0 : Array Value} (hw : ∀ d ∈ tables_1, d.before a0 Z = true) : ((Jvm.Cond.initialized "java/lang/String") : Jvm.Cond).before a0 Z = true := hw _ (List.mem_of_getElem? (i := 9) rfl)
theorem pd___Z_171 : parseMethodDescriptor "()Z" = some ⟨[], some .boolean⟩ := by decide +kernel
theorem wd52 {Z : State} {a0 : Array Value} (hw : ∀ d ∈ tables_1, d.before a0 Z = true) : ((Jvm.Cond.selects "java/lang/String" ({ cls := "java/lang/String", name := "isEmpty", desc := "()Z" } : Jvm.MethodName) ({ cls := "java/lang/String", name := "isEmpty", desc := "()Z" } : Jvm.MethodName)) : Jvm.Cond).before a0 Z = true := hw _ (List.mem_of_getElem? (i := 52) rfl)
theorem wd50 {Z : State} {a0 : Array Value} (hw : ∀ d ∈ tables_1, d.before a0 Z = true) : ((Jvm.Cond.declares ({ cls := "java/lang/String", name := "isEmpty", desc := "()Z" } : Jvm.MethodName)) : Jvm.Cond).before a0 Z = true := hw _ (List.mem_of_getElem? (i := 50) rfl)
theorem wd51 {Z : State} {a0 : Array Value} (hw : ∀ d ∈ tables_1, d.before a0 Z = true) : ((Jvm.Cond.instanceMethod ({ cls := "java/lang/String", name := "isEmpty", desc := "()Z" } : Jvm.MethodName)) : Jvm.Cond).before a0 Z = true := hw _ (List.mem_of_getElem? (i := 51) rfl)
theorem d2_102 : decode prog_37_method_3_code 102 = .ok (.ifCond .ne 21, 3) := by decide +kernel
theorem ef_own_r5R (m : MethodId) (x0 : Addr) (x1 : Addr) (x2 : Addr) (x3 : Addr) (x4 : Addr) (x5 : Addr) : entryFrame m #[(.ref x0), (.ref x1), (.ref x2), (.ref x3), (.ref x4), (.ref x5)] 6 = mkF m 0 #[.val (.ref x0), .val (.ref x1), .val (.ref x2), .val (.ref x3), .val (.ref x4), .val (.ref x5)] [] := by first | (simp [entryFrame, mkF, argsToLocals, Value.category]; done) | rfl
abbrev mt3 : MethodName := (⟨"com/example/object_access_rules/objectaccessrules/Result", "<init>", "(Lcom/example/object_access_rules/objectaccessrules/Decision;Lcom/example/object_access_rules/objectaccessrules/StatusCode;Ljava/lang/String;)V"⟩ : MethodName)
theorem ef_own_r3 (m : MethodId) (x0 : Addr) (x1 : Addr) (x2 : Addr) (x3 : Addr) : entryFrame m #[(.ref x0), (.ref x1), (.ref x2), (.ref x3)] 4 = mkF m 0 #[.val (.ref x0), .val (.ref x1), .val (.ref x2), .val (.ref x3)] [] := by first | (simp [entryFrame, mkF, argsToLocals, Value.category]; done) | rfl
theorem d1_0 : decode prog_37_method_1_code 0 = .ok (.aload_n 0, 1) := by decide +kernel
theorem d1_1 : decode prog_37_method_1_code 1 = .ok (.aload_n 1, 1) := by decide +kernel
theorem d1_2 : decode prog_37_method_1_code 2 = .ok (.aload_n 2, 1) := by decide +kernel
theorem d1_3 : decode prog_37_method_1_code 3 = .ok (.aload_n 3, 1) := by decide +kernel
theorem d1_4 : decode prog_37_method_1_code 4 = .ok (.aconst_null, 1) := by decide +kernel
theorem d1_5 : decode prog_37_method_1_code 5 = .ok (.aconst_null, 1) := by decide +kernel
theorem d1_6 : decode prog_37_method_1_code 6 = .ok (.invokespecial 1, 3) := by decide +kernel
theorem wd22 {Z : State} {a0 : Array Value} (hw : ∀ d ∈ tables_1, d.before a0 Z = true) : ((Jvm.Cond.methodLink "com/example/object_access_rules/objectaccessrules/Result" (1 : Nat) ({ cls := "com/example/object_access_rules/objectaccessrules/Result", name := "<init>", desc := "(Lcom/example/object_access_rules/objectaccessrules/Decision;Lcom/example/object_access_rules/objectaccessrules/StatusCode;Ljava/lang/String;Ljava/lang/String;Lcom/example/object_access_rules/objectaccessrules/Result;)V" } : Jvm.MethodName)) : Jvm.Cond).before a0 Z = true := hw _ (List.mem_of_getElem? (i := 22) rfl)
theorem wd24 {Z : State} {a0 : Array Value} (hw : ∀ d ∈ tables_1, d.before a0 Z = true) : ((Jvm.Cond.code ({ cls := "com/example/object_access_rules/objectaccessrules/Result", name := "<init>", desc := "(Lcom/example/object_access_rules/objectaccessrules/Decision;Lcom/example/object_access_rules/objectaccessrules/StatusCode;Ljava/lang/String;Ljava/lang/String;Lcom/example/object_access_rules/objectaccessrules/Result;)V" } : Jvm.MethodName) prog_37_method_3_code (6 : Nat) (Option.none : Option Jvm.ClassFile.FieldType)) : Jvm.Cond).before a0 Z = true := hw _ (List.mem_of_getElem? (i := 24) rfl)
theorem wd18 {Z : State} {a0 : Array Value} (hw : ∀ d ∈ tables_1, d.before a0 Z = true) : ((Jvm.Cond.initialized "com/example/object_access_rules/objectaccessrules/Result") : Jvm.Cond).before a0 Z = true := hw _ (List.mem_of_getElem? (i := 18) rfl)
theorem pd__Lcom_example_object_access_rules_objectaccessrules_Decision_Lcom_example_object_access_rules_objectaccessrules_StatusCode_Ljava_lang_String_Ljava_lang_String_Lcom_example_object_access_rules_objectaccessrules_Result__V_1701 : parseMethodDescriptor "(Lcom/example/object_access_rules/objectaccessrules/Decision;Lcom/example/object_access_rules/objectaccessrules/StatusCode;Ljava/lang/String;Ljava/lang/String;Lcom/example/object_access_rules/objectaccessrules/Result;)V" = some ⟨[(.object "com/example/object_access_rules/objectaccessrules/Decision"), (.object "com/example/object_access_rules/objectaccessrules/StatusCode"), (.object "java/lang/String"), (.object "java/lang/String"), (.object "com/example/object_access_rules/objectaccessrules/Result")], none⟩ := by decide +kernel
theorem wd23 {Z : State} {a0 : Array Value} (hw : ∀ d ∈ tables_1, d.before a0 Z = true) : ((Jvm.Cond.instanceMethod ({ cls := "com/example/object_access_rules/objectaccessrules/Result", name := "<init>", desc := "(Lcom/example/object_access_rules/objectaccessrules/Decision;Lcom/example/object_access_rules/objectaccessrules/StatusCode;Ljava/lang/String;Ljava/lang/String;Lcom/example/object_access_rules/objectaccessrules/Result;)V" } : Jvm.MethodName)) : Jvm.Cond).before a0 Z = true := hw _ (List.mem_of_getElem? (i := 23) rfl)
theorem d1_9 : decode prog_37_method_1_code 9 = .ok (.return_, 1) := by decide +kernel
abbrev mt4 : MethodName := (⟨"java/lang/StringLatin1", "canEncode", "(C)Z"⟩ : MethodName)
theorem pn_java_lang_StringLatin1 : plainName "java/lang/StringLatin1" = true := by first | (simp [plainName, overriddenIn]; done) | decide +kernel
theorem ef_own_canEnc (m : MethodId) (x0 : Int32) : entryFrame m #[(.int x0)] 1 = mkF m 0 #[.val (.int x0)] [] := by first | (simp [entryFrame, mkF, argsToLocals, Value.category]; done) | rfl
theorem d7_0 : decode jdk_43_method_3_code 0 = .ok (.iload_n 0, 1) := by decide +kernel
theorem d7_1 : decode jdk_43_method_3_code 1 = .ok (.sipush 255, 3) := by decide +kernel
theorem d7_4 : decode jdk_43_method_3_code 4 = .ok (.if_icmp .gt 7, 3) := by decide +kernel
theorem d7_11 : decode jdk_43_method_3_code 11 = .ok (.iconst 0, 1) := by decide +kernel
theorem d7_12 : decode jdk_43_method_3_code 12 = .ok (.ireturn, 1) := by decide +kernel
theorem d7_7 : decode jdk_43_method_3_code 7 = .ok (.iconst 1, 1) := by decide +kernel
theorem d7_8 : decode jdk_43_method_3_code 8 = .ok (.goto 4, 3) := by decide +kernel
abbrev mt5 : MethodName := (⟨"java/lang/StringLatin1", "toBytes", "(C)[B"⟩ : MethodName)
theorem ef_own_toBytes (m : MethodId) (x0 : Int32) : entryFrame m #[(.int x0)] 1 = mkF m 0 #[.val (.int x0)] [] := by first | (simp [entryFrame, mkF, argsToLocals, Value.category]; done) | rfl
theorem d8_0 : decode jdk_43_method_46_code 0 = .ok (.iconst 1, 1) := by decide +kernel
theorem d8_1 : decode jdk_43_method_46_code 1 = .ok (.newarray .byte, 2) := by decide +kernel
theorem wd11 {Z : State} {a0 : Array Value} (hw : ∀ d ∈ tables_1, d.before a0 Z = true) : ((Jvm.Cond.arrayClass Jvm.ClassFile.FieldType.byte) : Jvm.Cond).before a0 Z = true := hw _ (List.mem_of_getElem? (i := 11) rfl)
theorem d8_3 : decode jdk_43_method_46_code 3 = .ok (.dup, 1) := by decide +kernel
theorem d8_4 : decode jdk_43_method_46_code 4 = .ok (.iconst 0, 1) := by decide +kernel
theorem d8_5 : decode jdk_43_method_46_code 5 = .ok (.iload_n 0, 1) := by decide +kernel
theorem d8_6 : decode jdk_43_method_46_code 6 = .ok (.i2b, 1) := by decide +kernel
theorem d8_7 : decode jdk_43_method_46_code 7 = .ok (.bastore, 1) := by decide +kernel
theorem d8_8 : decode jdk_43_method_46_code 8 = .ok (.areturn, 1) := by decide +kernel
abbrev mt6 : MethodName := (⟨"java/lang/String", "<init>", "([BB)V"⟩ : MethodName)
theorem ef_own_strBB (m : MethodId) (x0 : Addr) (x1 : Addr) (x2 : Int32) : entryFrame m #[(.ref x0), (.ref x1), (.int x2)] 3 = mkF m 0 #[.val (.ref x0), .val (.ref x1), .val (.int x2)] [] := by first | (simp [entryFrame, mkF, argsToLocals, Value.category]; done) | rfl
theorem d9_0 : decode jdk_42_method_151_code 0 = .ok (.aload_n 0, 1) := by decide +kernel
theorem d9_1 : decode jdk_42_method_151_code 1 = .ok (.invokespecial 1, 3) := by decide +kernel
theorem wd74 {Z : State} {a0 : Array Value} (hw : ∀ d ∈ tables_1, d.before a0 Z = true) : ((Jvm.Cond.methodLink "java/lang/String" (1 : Nat) ({ cls := "java/lang/Object", name := "<init>", desc := "()V" } : Jvm.MethodName)) : Jvm.Cond).before a0 Z = true := hw _ (List.mem_of_getElem? (i := 74) rfl)
theorem d9_4 : decode jdk_42_method_151_code 4 = .ok (.aload_n 0, 1) := by decide +kernel
theorem d9_5 : decode jdk_42_method_151_code 5 = .ok (.aload_n 1, 1) := by decide +kernel
theorem d9_6 : decode jdk_42_method_151_code 6 = .ok (.putfield 9, 3) := by decide +kernel
theorem wd12 {Z : State} {a0 : Array Value} (hw : ∀ d ∈ tables_1, d.before a0 Z = true) : ((Jvm.Cond.laysFinal "java/lang/String" "java/lang/String" "value" "[B") : Jvm.Cond).before a0 Z = true := hw _ (List.mem_of_getElem? (i := 12) rfl)
theorem d9_9 : decode jdk_42_method_151_code 9 = .ok (.aload_n 0, 1) := by decide +kernel
theorem d9_10 : decode jdk_42_method_151_code 10 = .ok (.iload_n 2, 1) := by decide +kernel
theorem d9_11 : decode jdk_42_method_151_code 11 = .ok (.putfield 15, 3) := by decide +kernel
theorem wd75 {Z : State} {a0 : Array Value} (hw : ∀ d ∈ tables_1, d.before a0 Z = true) : ((Jvm.Cond.fieldLink "java/lang/String" (15 : Nat) "java/lang/String" "coder" "B") : Jvm.Cond).before a0 Z = true := hw _ (List.mem_of_getElem? (i := 75) rfl)
theorem wd13 {Z : State} {a0 : Array Value} (hw : ∀ d ∈ tables_1, d.before a0 Z = true) : ((Jvm.Cond.laysFinal "java/lang/String" "java/lang/String" "coder" "B") : Jvm.Cond).before a0 Z = true := hw _ (List.mem_of_getElem? (i := 13) rfl)
theorem d9_14 : decode jdk_42_method_151_code 14 = .ok (.return_, 1) := by decide +kernel
abbrev mt7 : MethodName := (⟨"java/lang/String", "valueOf", "(C)Ljava/lang/String;"⟩ : MethodName)
theorem ef_own_valueOf (m : MethodId) (x0 : Int32) : entryFrame m #[(.int x0)] 1 = mkF m 0 #[.val (.int x0)] [] := by first | (simp [entryFrame, mkF, argsToLocals, Value.category]; done) | rfl
theorem d6_0 : decode jdk_42_method_139_code 0 = .ok (.getstatic 38, 3) := by decide +kernel
theorem wd62 {Z : State} {a0 : Array Value} (hw : ∀ d ∈ tables_1, d.before a0 Z = true) : ((Jvm.Cond.fieldLink "java/lang/String" (38 : Nat) "java/lang/String" "COMPACT_STRINGS" "Z") : Jvm.Cond).before a0 Z = true := hw _ (List.mem_of_getElem? (i := 62) rfl)
theorem d6_3 : decode jdk_42_method_139_code 3 = .ok (.ifCond .eq 23, 3) := by decide +kernel
theorem d6_6 : decode jdk_42_method_139_code 6 = .ok (.iload_n 0, 1) := by decide +kernel
theorem d6_7 : decode jdk_42_method_139_code 7 = .ok (.invokestatic 1015, 3) := by decide +kernel
theorem wd63 {Z : State} {a0 : Array Value} (hw : ∀ d ∈ tables_1, d.before a0 Z = true) : ((Jvm.Cond.methodLink "java/lang/String" (1015 : Nat) ({ cls := "java/lang/StringLatin1", name := "canEncode", desc := "(C)Z" } : Jvm.MethodName)) : Jvm.Cond).before a0 Z = true := hw _ (List.mem_of_getElem? (i := 63) rfl)
theorem wd66 {Z : State} {a0 : Array Value} (hw : ∀ d ∈ tables_1, d.before a0 Z = true) : ((Jvm.Cond.code ({ cls := "java/lang/StringLatin1", name := "canEncode", desc := "(C)Z" } : Jvm.MethodName) jdk_43_method_3_code (1 : Nat) (Option.some Jvm.ClassFile.FieldType.boolean)) : Jvm.Cond).before a0 Z = true := hw _ (List.mem_of_getElem? (i := 66) rfl)
theorem wd65 {Z : State} {a0 : Array Value} (hw : ∀ d ∈ tables_1, d.before a0 Z = true) : ((Jvm.Cond.initialized "java/lang/StringLatin1") : Jvm.Cond).before a0 Z = true := hw _ (List.mem_of_getElem? (i := 65) rfl)
theorem pd__C_Z_238 : parseMethodDescriptor "(C)Z" = some ⟨[.char], some .boolean⟩ := by decide +kernel
theorem wd64 {Z : State} {a0 : Array Value} (hw : ∀ d ∈ tables_1, d.before a0 Z = true) : ((Jvm.Cond.static ({ cls := "java/lang/StringLatin1", name := "canEncode", desc := "(C)Z" } : Jvm.MethodName)) : Jvm.Cond).before a0 Z = true := hw _ (List.mem_of_getElem? (i := 64) rfl)
theorem d6_10 : decode jdk_42_method_139_code 10 = .ok (.ifCond .eq 16, 3) := by decide +kernel
theorem d6_13 : decode jdk_42_method_139_code 13 = .ok (.new 10, 3) := by decide +kernel
theorem wd67 {Z : State} {a0 : Array Value} (hw : ∀ d ∈ tables_1, d.before a0 Z = true) : ((Jvm.Cond.classLink "java/lang/String" (10 : Nat) "java/lang/String") : Jvm.Cond).before a0 Z = true := hw _ (List.mem_of_getElem? (i := 67) rfl)
theorem d6_16 : decode jdk_42_method_139_code 16 = .ok (.dup, 1) := by decide +kernel
theorem d6_17 : decode jdk_42_method_139_code 17 = .ok (.iload_n 0, 1) := by decide +kernel
theorem d6_18 : decode jdk_42_method_139_code 18 = .ok (.invokestatic 1018, 3) := by decide +kernel
theorem wd68 {Z : State} {a0 : Array Value} (hw : ∀ d ∈ tables_1, d.before a0 Z = true) : ((Jvm.Cond.methodLink "java/lang/String" (1018 : Nat) ({ cls := "java/lang/StringLatin1", name := "toBytes", desc := "(C)[B" } : Jvm.MethodName)) : Jvm.Cond).before a0 Z = true := hw _ (List.mem_of_getElem? (i := 68) rfl)
theorem wd70 {Z : State} {a0 : Array Value} (hw : ∀ d ∈ tables_1, d.before a0 Z = true) : ((Jvm.Cond.code ({ cls := "java/lang/StringLatin1", name := "toBytes", desc := "(C)[B" } : Jvm.MethodName) jdk_43_method_46_code (1 : Nat) (Option.some (Jvm.ClassFile.FieldType.array Jvm.ClassFile.FieldType.byte))) : Jvm.Cond).before a0 Z = true := hw _ (List.mem_of_getElem? (i := 70) rfl)
theorem pd__C__B_305 : parseMethodDescriptor "(C)[B" = some ⟨[.char], some (.array .byte)⟩ := by decide +kernel
theorem wd69 {Z : State} {a0 : Array Value} (hw : ∀ d ∈ tables_1, d.before a0 Z = true) : ((Jvm.Cond.static ({ cls := "java/lang/StringLatin1", name := "toBytes", desc := "(C)[B" } : Jvm.MethodName)) : Jvm.Cond).before a0 Z = true := hw _ (List.mem_of_getElem? (i := 69) rfl)
theorem d6_21 : decode jdk_42_method_139_code 21 = .ok (.iconst 0, 1) := by decide +kernel
theorem d6_22 : decode jdk_42_method_139_code 22 = .ok (.invokespecial 209, 3) := by decide +kernel
theorem wd71 {Z : State} {a0 : Array Value} (hw : ∀ d ∈ tables_1, d.before a0 Z = true) : ((Jvm.Cond.methodLink "java/lang/String" (209 : Nat) ({ cls := "java/lang/String", name := "<init>", desc := "([BB)V" } : Jvm.MethodName)) : Jvm.Cond).before a0 Z = true := hw _ (List.mem_of_getElem? (i := 71) rfl)
theorem wd73 {Z : State} {a0 : Array Value} (hw : ∀ d ∈ tables_1, d.before a0 Z = true) : ((Jvm.Cond.code ({ cls := "java/lang/String", name := "<init>", desc := "([BB)V" } : Jvm.MethodName) jdk_42_method_151_code (3 : Nat) (Option.none : Option Jvm.ClassFile.FieldType)) : Jvm.Cond).before a0 Z = true := hw _ (List.mem_of_getElem? (i := 73) rfl)
theorem pd___BB_V_390 : parseMethodDescriptor "([BB)V" = some ⟨[(.array .byte), .byte], none⟩ := by decide +kernel
theorem wd72 {Z : State} {a0 : Array Value} (hw : ∀ d ∈ tables_1, d.before a0 Z = true) : ((Jvm.Cond.instanceMethod ({ cls := "java/lang/String", name := "<init>", desc := "([BB)V" } : Jvm.MethodName)) : Jvm.Cond).before a0 Z = true := hw _ (List.mem_of_getElem? (i := 72) rfl)
theorem d6_25 : decode jdk_42_method_139_code 25 = .ok (.areturn, 1) := by decide +kernel
abbrev mt8 : MethodName := (⟨"com/example/object_access_rules/objectaccessrules/Result", "through", "(Ljava/lang/String;)Lcom/example/object_access_rules/objectaccessrules/Result;"⟩ : MethodName)
theorem ef_own_thrN (m : MethodId) (x0 : Addr) (x1 : Addr) : entryFrame m #[(.ref x0), (.ref x1)] 2 = mkF m 0 #[.val (.ref x0), .val (.ref x1)] [] := by first | (simp [entryFrame, mkF, argsToLocals, Value.category]; done) | rfl
theorem d10_0 : decode prog_37_method_13_code 0 = .ok (.aload_n 0, 1) := by decide +kernel
theorem d10_1 : decode prog_37_method_13_code 1 = .ok (.getfield 27, 3) := by decide +kernel
theorem d10_4 : decode prog_37_method_13_code 4 = .ok (.getstatic 135, 3) := by decide +kernel
theorem wd81 {Z : State} {a0 : Array Value} (hw : ∀ d ∈ tables_1, d.before a0 Z = true) : ((Jvm.Cond.fieldLink "com/example/object_access_rules/objectaccessrules/Result" (135 : Nat) "com/example/object_access_rules/objectaccessrules/Decision" "NOT_APPLICABLE" "Lcom/example/object_access_rules/objectaccessrules/Decision;") : Jvm.Cond).before a0 Z = true := hw _ (List.mem_of_getElem? (i := 81) rfl)
theorem d10_7 : decode prog_37_method_13_code 7 = .ok (.if_acmp .ne 7, 3) := by decide +kernel
theorem d10_10 : decode prog_37_method_13_code 10 = .ok (.aload_n 0, 1) := by decide +kernel
theorem d10_11 : decode prog_37_method_13_code 11 = .ok (.goto 24, 3) := by decide +kernel
theorem d10_35 : decode prog_37_method_13_code 35 = .ok (.areturn, 1) := by decide +kernel
theorem ef_own_thrX (m : MethodId) (x0 : Addr) (x1 : Addr) : entryFrame m #[(.ref x0), (.ref x1)] 2 = mkF m 0 #[.val (.ref x0), .val (.ref x1)] [] := by first | (simp [entryFrame, mkF, argsToLocals, Value.category]; done) | rfl
theorem d10_14 : decode prog_37_method_13_code 14 = .ok (.new 2, 3) := by decide +kernel
theorem wd83 {Z : State} {a0 : Array Value} (hw : ∀ d ∈ tables_1, d.before a0 Z = true) : ((Jvm.Cond.classLink "com/example/object_access_rules/objectaccessrules/Result" (2 : Nat) "com/example/object_access_rules/objectaccessrules/Result") : Jvm.Cond).before a0 Z = true := hw _ (List.mem_of_getElem? (i := 83) rfl)
theorem d10_17 : decode prog_37_method_13_code 17 = .ok (.dup, 1) := by decide +kernel
theorem d10_18 : decode prog_37_method_13_code 18 = .ok (.aload_n 0, 1) := by decide +kernel
theorem d10_19 : decode prog_37_method_13_code 19 = .ok (.getfield 27, 3) := by decide +kernel
theorem d10_22 : decode prog_37_method_13_code 22 = .ok (.aload_n 0, 1) := by decide +kernel
theorem d10_23 : decode prog_37_method_13_code 23 = .ok (.getfield 34, 3) := by decide +kernel
theorem d10_26 : decode prog_37_method_13_code 26 = .ok (.aload_n 0, 1) := by decide +kernel
theorem d10_27 : decode prog_37_method_13_code 27 = .ok (.getfield 41, 3) := by decide +kernel
theorem d10_30 : decode prog_37_method_13_code 30 = .ok (.aload_n 1, 1) := by decide +kernel
theorem d10_31 : decode prog_37_method_13_code 31 = .ok (.aload_n 0, 1) := by decide +kernel
theorem d10_32 : decode prog_37_method_13_code 32 = .ok (.invokespecial 1, 3) := by decide +kernel
abbrev mt9 : MethodName := (⟨"com/example/object_access_rules/objectaccessrules/Result", "asDeny", "()Lcom/example/object_access_rules/objectaccessrules/Result;"⟩ : MethodName)
theorem ef_own_adN (m : MethodId) (x0 : Addr) : entryFrame m #[(.ref x0)] 1 = mkF m 0 #[.val (.ref x0)] [] := by first | (simp [entryFrame, mkF, argsToLocals, Value.category]; done) | rfl
theorem d12_0 : decode prog_37_method_14_code 0 = .ok (.new 2, 3) := by decide +kernel
theorem d12_3 : decode prog_37_method_14_code 3 = .ok (.dup, 1) := by decide +kernel
theorem d12_4 : decode prog_37_method_14_code 4 = .ok (.getstatic 137, 3) := by decide +kernel
theorem wd94 {Z : State} {a0 : Array Value} (hw : ∀ d ∈ tables_1, d.before a0 Z = true) : ((Jvm.Cond.fieldLink "com/example/object_access_rules/objectaccessrules/Result" (137 : Nat) "com/example/object_access_rules/objectaccessrules/Decision" "DENY" "Lcom/example/object_access_rules/objectaccessrules/Decision;") : Jvm.Cond).before a0 Z = true := hw _ (List.mem_of_getElem? (i := 94) rfl)
theorem d12_7 : decode prog_37_method_14_code 7 = .ok (.getstatic 47, 3) := by decide +kernel
theorem d12_10 : decode prog_37_method_14_code 10 = .ok (.ldc 7, 2) := by decide +kernel
theorem wd96 {Z : State} {a0 : Array Value} (hw : ∀ d ∈ tables_1, d.before a0 Z = true) : ((Jvm.Cond.stringLink "com/example/object_access_rules/objectaccessrules/Result" (7 : Nat) "") : Jvm.Cond).before a0 Z = true := hw _ (List.mem_of_getElem? (i := 96) rfl)
theorem d12_12 : decode prog_37_method_14_code 12 = .ok (.aload_n 0, 1) := by decide +kernel
theorem d12_13 : decode prog_37_method_14_code 13 = .ok (.getfield 71, 3) := by decide +kernel
theorem d12_16 : decode prog_37_method_14_code 16 = .ok (.aload_n 0, 1) := by decide +kernel
theorem d12_17 : decode prog_37_method_14_code 17 = .ok (.getfield 74, 3) := by decide +kernel
theorem d12_20 : decode prog_37_method_14_code 20 = .ok (.invokespecial 1, 3) := by decide +kernel
theorem d12_23 : decode prog_37_method_14_code 23 = .ok (.areturn, 1) := by decide +kernel
theorem ef_own_adR (m : MethodId) (x0 : Addr) : entryFrame m #[(.ref x0)] 1 = mkF m 0 #[.val (.ref x0)] [] := by first | (simp [entryFrame, mkF, argsToLocals, Value.category]; done) | rfl
abbrev mt10 : MethodName := (⟨"com/example/object_access_rules/objectaccessrules/Result", "origin", "()Lcom/example/object_access_rules/objectaccessrules/Result;"⟩ : MethodName)
theorem ef_own_og0 (m : MethodId) (x0 : Addr) : entryFrame m #[(.ref x0)] 2 = mkF m 0 #[.val (.ref x0), .unset] [] := by first | (simp [entryFrame, mkF, argsToLocals, Value.category]; done) | rfl
theorem d11_0 : decode prog_37_method_12_code 0 = .ok (.aload_n 0, 1) := by decide +kernel
theorem d11_1 : decode prog_37_method_12_code 1 = .ok (.astore_n 1, 1) := by decide +kernel
theorem d11_2 : decode prog_37_method_12_code 2 = .ok (.aload_n 1, 1) := by decide +kernel
theorem d11_3 : decode prog_37_method_12_code 3 = .ok (.getfield 74, 3) := by decide +kernel
theorem d11_6 : decode prog_37_method_12_code 6 = .ok (.ifnull 11, 3) := by decide +kernel
theorem d11_17 : decode prog_37_method_12_code 17 = .ok (.aload_n 1, 1) := by decide +kernel
theorem d11_18 : decode prog_37_method_12_code 18 = .ok (.areturn, 1) := by decide +kernel
theorem ef_own_og1 (m : MethodId) (x0 : Addr) : entryFrame m #[(.ref x0)] 2 = mkF m 0 #[.val (.ref x0), .unset] [] := by first | (simp [entryFrame, mkF, argsToLocals, Value.category]; done) | rfl
theorem d11_9 : decode prog_37_method_12_code 9 = .ok (.aload_n 1, 1) := by decide +kernel
theorem d11_10 : decode prog_37_method_12_code 10 = .ok (.getfield 74, 3) := by decide +kernel
theorem d11_13 : decode prog_37_method_12_code 13 = .ok (.astore_n 1, 1) := by decide +kernel
theorem d11_14 : decode prog_37_method_12_code 14 = .ok (.goto (-12), 3) := by decide +kernel
theorem ef_own_og2 (m : MethodId) (x0 : Addr) : entryFrame m #[(.ref x0)] 2 = mkF m 0 #[.val (.ref x0), .unset] [] := by first | (simp [entryFrame, mkF, argsToLocals, Value.category]; done) | rfl
theorem ef_own_og3 (m : MethodId) (x0 : Addr) : entryFrame m #[(.ref x0)] 2 = mkF m 0 #[.val (.ref x0), .unset] [] := by first | (simp [entryFrame, mkF, argsToLocals, Value.category]; done) | rfl
theorem wd16 {Z : State} {a0 : Array Value} (hw : ∀ d ∈ tables_1, d.before a0 Z = true) : ((Jvm.Cond.classLink "com/example/object_access_rules/objectaccessrules/ResultOriginPinLaw" (45 : Nat) "com/example/object_access_rules/objectaccessrules/Result") : Jvm.Cond).before a0 Z = true := hw _ (List.mem_of_getElem? (i := 16) rfl)
theorem wd19 {Z : State} {a0 : Array Value} (hw : ∀ d ∈ tables_1, d.before a0 Z = true) : ((Jvm.Cond.methodLink "com/example/object_access_rules/objectaccessrules/ResultOriginPinLaw" (47 : Nat) ({ cls := "com/example/object_access_rules/objectaccessrules/Result", name := "<init>", desc := "(Lcom/example/object_access_rules/objectaccessrules/Decision;Lcom/example/object_access_rules/objectaccessrules/StatusCode;Ljava/lang/String;)V" } : Jvm.MethodName)) : Jvm.Cond).before a0 Z = true := hw _ (List.mem_of_getElem? (i := 19) rfl)
theorem wd21 {Z : State} {a0 : Array Value} (hw : ∀ d ∈ tables_1, d.before a0 Z = true) : ((Jvm.Cond.code ({ cls := "com/example/object_access_rules/objectaccessrules/Result", name := "<init>", desc := "(Lcom/example/object_access_rules/objectaccessrules/Decision;Lcom/example/object_access_rules/objectaccessrules/StatusCode;Ljava/lang/String;)V" } : Jvm.MethodName) prog_37_method_1_code (4 : Nat) (Option.none : Option Jvm.ClassFile.FieldType)) : Jvm.Cond).before a0 Z = true := hw _ (List.mem_of_getElem? (i := 21) rfl)
theorem pd__Lcom_example_object_access_rules_objectaccessrules_Decision_Lcom_example_object_access_rules_objectaccessrules_StatusCode_Ljava_lang_String__V_4135 : parseMethodDescriptor "(Lcom/example/object_access_rules/objectaccessrules/Decision;Lcom/example/object_access_rules/objectaccessrules/StatusCode;Ljava/lang/String;)V" = some ⟨[(.object "com/example/object_access_rules/objectaccessrules/Decision"), (.object "com/example/object_access_rules/objectaccessrules/StatusCode"), (.object "java/lang/String")], none⟩ := by decide +kernel
theorem wd20 {Z : State} {a0 : Array Value} (hw : ∀ d ∈ tables_1, d.before a0 Z = true) : ((Jvm.Cond.instanceMethod ({ cls := "com/example/object_access_rules/objectaccessrules/Result", name := "<init>", desc := "(Lcom/example/object_access_rules/objectaccessrules/Decision;Lcom/example/object_access_rules/objectaccessrules/StatusCode;Ljava/lang/String;)V" } : Jvm.MethodName)) : Jvm.Cond).before a0 Z = true := hw _ (List.mem_of_getElem? (i := 20) rfl)
theorem own_store_16_10_R {t0 t1 t2 t3 t4 t5 t6 t7 t8 t9 t10 t11 t12 t13 t14 t15 : Slot} {w : Addr} (h : One t10) : storeLocals #[t0, t1, t2, t3, t4, t5, t6, t7, t8, t9, t10, t11, t12, t13, t14, t15] 10 (.ref w) = some #[t0, t1, t2, t3, t4, t5, t6, t7, t8, t9, .val (.ref w), t11, t12, t13, t14, t15] := by
  rcases h with rfl | ⟨w', rfl, hw⟩
  · rfl
  · cases w' <;> first | rfl | (simp [Value.category] at hw)
theorem own_store_16_11_I {t0 t1 t2 t3 t4 t5 t6 t7 t8 t9 t10 t11 t12 t13 t14 t15 : Slot} {w : Int32} (h : One t11) : storeLocals #[t0, t1, t2, t3, t4, t5, t6, t7, t8, t9, t10, t11, t12, t13, t14, t15] 11 (.int w) = some #[t0, t1, t2, t3, t4, t5, t6, t7, t8, t9, t10, .val (.int w), t12, t13, t14, t15] := by
  rcases h with rfl | ⟨w', rfl, hw⟩
  · rfl
  · cases w' <;> first | rfl | (simp [Value.category] at hw)
theorem wd84 {Z : State} {a0 : Array Value} (hw : ∀ d ∈ tables_1, d.before a0 Z = true) : ((Jvm.Cond.methodLink "com/example/object_access_rules/objectaccessrules/ResultOriginPinLaw" (62 : Nat) ({ cls := "com/example/object_access_rules/objectaccessrules/Result", name := "origin", desc := "()Lcom/example/object_access_rules/objectaccessrules/Result;" } : Jvm.MethodName)) : Jvm.Cond).before a0 Z = true := hw _ (List.mem_of_getElem? (i := 84) rfl)
theorem wd88 {Z : State} {a0 : Array Value} (hw : ∀ d ∈ tables_1, d.before a0 Z = true) : ((Jvm.Cond.code ({ cls := "com/example/object_access_rules/objectaccessrules/Result", name := "origin", desc := "()Lcom/example/object_access_rules/objectaccessrules/Result;" } : Jvm.MethodName) prog_37_method_12_code (2 : Nat) (Option.some (Jvm.ClassFile.FieldType.object "com/example/object_access_rules/objectaccessrules/Result"))) : Jvm.Cond).before a0 Z = true := hw _ (List.mem_of_getElem? (i := 88) rfl)
theorem pd___Lcom_example_object_access_rules_objectaccessrules_Result__5924 : parseMethodDescriptor "()Lcom/example/object_access_rules/objectaccessrules/Result;" = some ⟨[], some (.object "com/example/object_access_rules/objectaccessrules/Result")⟩ := by decide +kernel
theorem wd87 {Z : State} {a0 : Array Value} (hw : ∀ d ∈ tables_1, d.before a0 Z = true) : ((Jvm.Cond.selects "com/example/object_access_rules/objectaccessrules/Result" ({ cls := "com/example/object_access_rules/objectaccessrules/Result", name := "origin", desc := "()Lcom/example/object_access_rules/objectaccessrules/Result;" } : Jvm.MethodName) ({ cls := "com/example/object_access_rules/objectaccessrules/Result", name := "origin", desc := "()Lcom/example/object_access_rules/objectaccessrules/Result;" } : Jvm.MethodName)) : Jvm.Cond).before a0 Z = true := hw _ (List.mem_of_getElem? (i := 87) rfl)
theorem wd85 {Z : State} {a0 : Array Value} (hw : ∀ d ∈ tables_1, d.before a0 Z = true) : ((Jvm.Cond.declares ({ cls := "com/example/object_access_rules/objectaccessrules/Result", name := "origin", desc := "()Lcom/example/object_access_rules/objectaccessrules/Result;" } : Jvm.MethodName)) : Jvm.Cond).before a0 Z = true := hw _ (List.mem_of_getElem? (i := 85) rfl)
theorem wd86 {Z : State} {a0 : Array Value} (hw : ∀ d ∈ tables_1, d.before a0 Z = true) : ((Jvm.Cond.instanceMethod ({ cls := "com/example/object_access_rules/objectaccessrules/Result", name := "origin", desc := "()Lcom/example/object_access_rules/objectaccessrules/Result;" } : Jvm.MethodName)) : Jvm.Cond).before a0 Z = true := hw _ (List.mem_of_getElem? (i := 86) rfl)
theorem wd89 {Z : State} {a0 : Array Value} (hw : ∀ d ∈ tables_1, d.before a0 Z = true) : ((Jvm.Cond.methodLink "com/example/object_access_rules/objectaccessrules/ResultOriginPinLaw" (58 : Nat) ({ cls := "com/example/object_access_rules/objectaccessrules/Result", name := "asDeny", desc := "()Lcom/example/object_access_rules/objectaccessrules/Result;" } : Jvm.MethodName)) : Jvm.Cond).before a0 Z = true := hw _ (List.mem_of_getElem? (i := 89) rfl)
theorem wd93 {Z : State} {a0 : Array Value} (hw : ∀ d ∈ tables_1, d.before a0 Z = true) : ((Jvm.Cond.code ({ cls := "com/example/object_access_rules/objectaccessrules/Result", name := "asDeny", desc := "()Lcom/example/object_access_rules/objectaccessrules/Result;" } : Jvm.MethodName) prog_37_method_14_code (1 : Nat) (Option.some (Jvm.ClassFile.FieldType.object "com/example/object_access_rules/objectaccessrules/Result"))) : Jvm.Cond).before a0 Z = true := hw _ (List.mem_of_getElem? (i := 93) rfl)
theorem wd92 {Z : State} {a0 : Array Value} (hw : ∀ d ∈ tables_1, d.before a0 Z = true) : ((Jvm.Cond.selects "com/example/object_access_rules/objectaccessrules/Result" ({ cls := "com/example/object_access_rules/objectaccessrules/Result", name := "asDeny", desc := "()Lcom/example/object_access_rules/objectaccessrules/Result;" } : Jvm.MethodName) ({ cls := "com/example/object_access_rules/objectaccessrules/Result", name := "asDeny", desc := "()Lcom/example/object_access_rules/objectaccessrules/Result;" } : Jvm.MethodName)) : Jvm.Cond).before a0 Z = true := hw _ (List.mem_of_getElem? (i := 92) rfl)
theorem wd90 {Z : State} {a0 : Array Value} (hw : ∀ d ∈ tables_1, d.before a0 Z = true) : ((Jvm.Cond.declares ({ cls := "com/example/object_access_rules/objectaccessrules/Result", name := "asDeny", desc := "()Lcom/example/object_access_rules/objectaccessrules/Result;" } : Jvm.MethodName)) : Jvm.Cond).before a0 Z = true := hw _ (List.mem_of_getElem? (i := 90) rfl)
theorem wd91 {Z : State} {a0 : Array Value} (hw : ∀ d ∈ tables_1, d.before a0 Z = true) : ((Jvm.Cond.instanceMethod ({ cls := "com/example/object_access_rules/objectaccessrules/Result", name := "asDeny", desc := "()Lcom/example/object_access_rules/objectaccessrules/Result;" } : Jvm.MethodName)) : Jvm.Cond).before a0 Z = true := hw _ (List.mem_of_getElem? (i := 91) rfl)
theorem wd59 {Z : State} {a0 : Array Value} (hw : ∀ d ∈ tables_1, d.before a0 Z = true) : ((Jvm.Cond.methodLink "com/example/object_access_rules/objectaccessrules/ResultOriginPinLaw" (50 : Nat) ({ cls := "java/lang/String", name := "valueOf", desc := "(C)Ljava/lang/String;" } : Jvm.MethodName)) : Jvm.Cond).before a0 Z = true := hw _ (List.mem_of_getElem? (i := 59) rfl)
theorem wd61 {Z : State} {a0 : Array Value} (hw : ∀ d ∈ tables_1, d.before a0 Z = true) : ((Jvm.Cond.code ({ cls := "java/lang/String", name := "valueOf", desc := "(C)Ljava/lang/String;" } : Jvm.MethodName) jdk_42_method_139_code (1 : Nat) (Option.some (Jvm.ClassFile.FieldType.object "java/lang/String"))) : Jvm.Cond).before a0 Z = true := hw _ (List.mem_of_getElem? (i := 61) rfl)
theorem pd__C_Ljava_lang_String__1844 : parseMethodDescriptor "(C)Ljava/lang/String;" = some ⟨[.char], some (.object "java/lang/String")⟩ := by decide +kernel
theorem wd60 {Z : State} {a0 : Array Value} (hw : ∀ d ∈ tables_1, d.before a0 Z = true) : ((Jvm.Cond.static ({ cls := "java/lang/String", name := "valueOf", desc := "(C)Ljava/lang/String;" } : Jvm.MethodName)) : Jvm.Cond).before a0 Z = true := hw _ (List.mem_of_getElem? (i := 60) rfl)
theorem wd76 {Z : State} {a0 : Array Value} (hw : ∀ d ∈ tables_1, d.before a0 Z = true) : ((Jvm.Cond.methodLink "com/example/object_access_rules/objectaccessrules/ResultOriginPinLaw" (54 : Nat) ({ cls := "com/example/object_access_rules/objectaccessrules/Result", name := "through", desc := "(Ljava/lang/String;)Lcom/example/object_access_rules/objectaccessrules/Result;" } : Jvm.MethodName)) : Jvm.Cond).before a0 Z = true := hw _ (List.mem_of_getElem? (i := 76) rfl)
theorem wd80 {Z : State} {a0 : Array Value} (hw : ∀ d ∈ tables_1, d.before a0 Z = true) : ((Jvm.Cond.code ({ cls := "com/example/object_access_rules/objectaccessrules/Result", name := "through", desc := "(Ljava/lang/String;)Lcom/example/object_access_rules/objectaccessrules/Result;" } : Jvm.MethodName) prog_37_method_13_code (2 : Nat) (Option.some (Jvm.ClassFile.FieldType.object "com/example/object_access_rules/objectaccessrules/Result"))) : Jvm.Cond).before a0 Z = true := hw _ (List.mem_of_getElem? (i := 80) rfl)
theorem pd__Ljava_lang_String__Lcom_example_object_access_rules_objectaccessrules_Result__7620 : parseMethodDescriptor "(Ljava/lang/String;)Lcom/example/object_access_rules/objectaccessrules/Result;" = some ⟨[(.object "java/lang/String")], some (.object "com/example/object_access_rules/objectaccessrules/Result")⟩ := by decide +kernel
theorem wd79 {Z : State} {a0 : Array Value} (hw : ∀ d ∈ tables_1, d.before a0 Z = true) : ((Jvm.Cond.selects "com/example/object_access_rules/objectaccessrules/Result" ({ cls := "com/example/object_access_rules/objectaccessrules/Result", name := "through", desc := "(Ljava/lang/String;)Lcom/example/object_access_rules/objectaccessrules/Result;" } : Jvm.MethodName) ({ cls := "com/example/object_access_rules/objectaccessrules/Result", name := "through", desc := "(Ljava/lang/String;)Lcom/example/object_access_rules/objectaccessrules/Result;" } : Jvm.MethodName)) : Jvm.Cond).before a0 Z = true := hw _ (List.mem_of_getElem? (i := 79) rfl)
theorem wd77 {Z : State} {a0 : Array Value} (hw : ∀ d ∈ tables_1, d.before a0 Z = true) : ((Jvm.Cond.declares ({ cls := "com/example/object_access_rules/objectaccessrules/Result", name := "through", desc := "(Ljava/lang/String;)Lcom/example/object_access_rules/objectaccessrules/Result;" } : Jvm.MethodName)) : Jvm.Cond).before a0 Z = true := hw _ (List.mem_of_getElem? (i := 77) rfl)
theorem wd78 {Z : State} {a0 : Array Value} (hw : ∀ d ∈ tables_1, d.before a0 Z = true) : ((Jvm.Cond.instanceMethod ({ cls := "com/example/object_access_rules/objectaccessrules/Result", name := "through", desc := "(Ljava/lang/String;)Lcom/example/object_access_rules/objectaccessrules/Result;" } : Jvm.MethodName)) : Jvm.Cond).before a0 Z = true := hw _ (List.mem_of_getElem? (i := 78) rfl)
theorem wd97 {Z : State} {a0 : Array Value} (hw : ∀ d ∈ tables_1, d.before a0 Z = true) : ((Jvm.Cond.fieldLink "com/example/object_access_rules/objectaccessrules/ResultOriginPinLaw" (16 : Nat) "com/example/object_access_rules/objectaccessrules/Decision" "NOT_APPLICABLE" "Lcom/example/object_access_rules/objectaccessrules/Decision;") : Jvm.Cond).before a0 Z = true := hw _ (List.mem_of_getElem? (i := 97) rfl)
theorem pn_com_example_object_access_rules_objectaccessrules_ResultOriginPinLaw : plainName "com/example/object_access_rules/objectaccessrules/ResultOriginPinLaw" = true := by first | (simp [plainName, overriddenIn]; done) | decide +kernel
theorem ef_own_law (m : MethodId) (x0 : Int32) (x1 : Int32) (x2 : Int32) (x3 : Int32) (x4 : Int32) (x5 : Int32) : entryFrame m #[(.int x0), (.int x1), (.int x2), (.int x3), (.int x4), (.int x5)] maxLocals = mkF m 0 #[.val (.int x0), .val (.int x1), .val (.int x2), .val (.int x3), .val (.int x4), .val (.int x5), .unset, .unset, .unset, .unset, .unset, .unset, .unset, .unset, .unset, .unset] [] := by first | (simp [entryFrame, mkF, argsToLocals, Value.category, maxLocals]; done) | rfl
theorem wd0 {Z : State} {a0 : Array Value} (hw : ∀ d ∈ tables_1, d.before a0 Z = true) : ((Jvm.Cond.fieldLink "com/example/object_access_rules/objectaccessrules/ResultOriginPinLaw" (7 : Nat) "com/example/object_access_rules/objectaccessrules/Decision" "PERMIT" "Lcom/example/object_access_rules/objectaccessrules/Decision;") : Jvm.Cond).before a0 Z = true := hw _ (List.mem_of_getElem? (i := 0) rfl)
theorem wd3 {Z : State} {a0 : Array Value} (hw : ∀ d ∈ tables_1, d.before a0 Z = true) : ((Jvm.Cond.fieldLink "com/example/object_access_rules/objectaccessrules/ResultOriginPinLaw" (19 : Nat) "com/example/object_access_rules/objectaccessrules/Decision" "INDETERMINATE" "Lcom/example/object_access_rules/objectaccessrules/Decision;") : Jvm.Cond).before a0 Z = true := hw _ (List.mem_of_getElem? (i := 3) rfl)
theorem wd5 {Z : State} {a0 : Array Value} (hw : ∀ d ∈ tables_1, d.before a0 Z = true) : ((Jvm.Cond.fieldLink "com/example/object_access_rules/objectaccessrules/ResultOriginPinLaw" (42 : Nat) "com/example/object_access_rules/objectaccessrules/StatusCode" "OK" "Lcom/example/object_access_rules/objectaccessrules/StatusCode;") : Jvm.Cond).before a0 Z = true := hw _ (List.mem_of_getElem? (i := 5) rfl)
theorem wd8 {Z : State} {a0 : Array Value} (hw : ∀ d ∈ tables_1, d.before a0 Z = true) : ((Jvm.Cond.stringLink "com/example/object_access_rules/objectaccessrules/ResultOriginPinLaw" (40 : Nat) "") : Jvm.Cond).before a0 Z = true := hw _ (List.mem_of_getElem? (i := 8) rfl)
theorem wd98 {Z : State} {a0 : Array Value} (hw : ∀ d ∈ tables_1, d.before a0 Z = true) : ((Jvm.Cond.fieldLink "com/example/object_access_rules/objectaccessrules/ResultOriginPinLaw" (13 : Nat) "com/example/object_access_rules/objectaccessrules/Decision" "DENY" "Lcom/example/object_access_rules/objectaccessrules/Decision;") : Jvm.Cond).before a0 Z = true := hw _ (List.mem_of_getElem? (i := 98) rfl)
theorem wd99 {Z : State} {a0 : Array Value} (hw : ∀ d ∈ tables_1, d.before a0 Z = true) : ((Jvm.Cond.constant "com/example/object_access_rules/objectaccessrules/ResultOriginPinLaw" (22 : Nat) (2147483647 : Int32)) : Jvm.Cond).before a0 Z = true := hw _ (List.mem_of_getElem? (i := 99) rfl)
theorem wd102 {Z : State} {a0 : Array Value} (hw : ∀ d ∈ tables_1, d.before a0 Z = true) : ((Jvm.Cond.fieldLink "com/example/object_access_rules/objectaccessrules/ResultOriginPinLaw" (23 : Nat) "com/example/object_access_rules/objectaccessrules/StatusCode" "MISSING_ATTRIBUTE" "Lcom/example/object_access_rules/objectaccessrules/StatusCode;") : Jvm.Cond).before a0 Z = true := hw _ (List.mem_of_getElem? (i := 102) rfl)
theorem wd122 {Z : State} {a0 : Array Value} (hw : ∀ d ∈ tables_1, d.before a0 Z = true) : ((Jvm.Cond.fieldLink "com/example/object_access_rules/objectaccessrules/ResultOriginPinLaw" (29 : Nat) "com/example/object_access_rules/objectaccessrules/StatusCode" "PROCESSING_ERROR" "Lcom/example/object_access_rules/objectaccessrules/StatusCode;") : Jvm.Cond).before a0 Z = true := hw _ (List.mem_of_getElem? (i := 122) rfl)
theorem wd100 {Z : State} {a0 : Array Value} (hw : ∀ d ∈ tables_1, d.before a0 Z = true) : ((Jvm.Cond.fieldLink "com/example/object_access_rules/objectaccessrules/ResultOriginPinLaw" (32 : Nat) "com/example/object_access_rules/objectaccessrules/StatusCode" "SYNTAX_ERROR" "Lcom/example/object_access_rules/objectaccessrules/StatusCode;") : Jvm.Cond).before a0 Z = true := hw _ (List.mem_of_getElem? (i := 100) rfl)
theorem wd104 {Z : State} {a0 : Array Value} (hw : ∀ d ∈ tables_1, d.before a0 Z = true) : ((Jvm.Cond.arrayClass Jvm.ClassFile.FieldType.char) : Jvm.Cond).before a0 Z = true := hw _ (List.mem_of_getElem? (i := 104) rfl)
theorem wd105 {Z : State} {a0 : Array Value} (hw : ∀ d ∈ tables_1, d.before a0 Z = true) : ((Jvm.Cond.classLink "com/example/object_access_rules/objectaccessrules/ResultOriginPinLaw" (35 : Nat) "java/lang/String") : Jvm.Cond).before a0 Z = true := hw _ (List.mem_of_getElem? (i := 105) rfl)
theorem wd106 {Z : State} {a0 : Array Value} (hw : ∀ d ∈ tables_1, d.before a0 Z = true) : ((Jvm.Cond.methodLink "com/example/object_access_rules/objectaccessrules/ResultOriginPinLaw" (37 : Nat) ({ cls := "java/lang/String", name := "<init>", desc := "([C)V" } : Jvm.MethodName)) : Jvm.Cond).before a0 Z = true := hw _ (List.mem_of_getElem? (i := 106) rfl)
theorem own_mw {Z : State} {a0 : Array Value} (hw : ∀ d ∈ tables_1, d.before a0 Z = true) : ∀ d ∈ StrChars.Road.words, d.before a0 Z = true := fun d hd => hw d ((by decide +kernel : ∀ d ∈ StrChars.Road.words, d ∈ tables_1) d hd)
theorem wd108 {Z : State} {a0 : Array Value} (hw : ∀ d ∈ tables_1, d.before a0 Z = true) : ((Jvm.Cond.code ({ cls := "java/lang/String", name := "<init>", desc := "([C)V" } : Jvm.MethodName) jdk_42_method_3_code (2 : Nat) (Option.none : Option Jvm.ClassFile.FieldType)) : Jvm.Cond).before a0 Z = true := hw _ (List.mem_of_getElem? (i := 108) rfl)
theorem pd___C_V_325 : parseMethodDescriptor "([C)V" = some ⟨[(.array .char)], none⟩ := by decide +kernel
abbrev mt11 : MethodName := (⟨"java/lang/String", "<init>", "([C)V"⟩ : MethodName)
theorem wd107 {Z : State} {a0 : Array Value} (hw : ∀ d ∈ tables_1, d.before a0 Z = true) : ((Jvm.Cond.instanceMethod ({ cls := "java/lang/String", name := "<init>", desc := "([C)V" } : Jvm.MethodName)) : Jvm.Cond).before a0 Z = true := hw _ (List.mem_of_getElem? (i := 107) rfl)
theorem wd1 {Z : State} {a0 : Array Value} (hw : ∀ d ∈ tables_1, d.before a0 Z = true) : ((Jvm.Cond.initialized "com/example/object_access_rules/objectaccessrules/Decision") : Jvm.Cond).before a0 Z = true := hw _ (List.mem_of_getElem? (i := 1) rfl)
theorem wd2 {Z : State} {a0 : Array Value} (hw : ∀ d ∈ tables_1, d.before a0 Z = true) : ((Jvm.Cond.laysStatic "com/example/object_access_rules/objectaccessrules/Decision" "PERMIT" "Lcom/example/object_access_rules/objectaccessrules/Decision;") : Jvm.Cond).before a0 Z = true := hw _ (List.mem_of_getElem? (i := 2) rfl)
theorem wd4 {Z : State} {a0 : Array Value} (hw : ∀ d ∈ tables_1, d.before a0 Z = true) : ((Jvm.Cond.laysStatic "com/example/object_access_rules/objectaccessrules/Decision" "INDETERMINATE" "Lcom/example/object_access_rules/objectaccessrules/Decision;") : Jvm.Cond).before a0 Z = true := hw _ (List.mem_of_getElem? (i := 4) rfl)
theorem wd6 {Z : State} {a0 : Array Value} (hw : ∀ d ∈ tables_1, d.before a0 Z = true) : ((Jvm.Cond.initialized "com/example/object_access_rules/objectaccessrules/StatusCode") : Jvm.Cond).before a0 Z = true := hw _ (List.mem_of_getElem? (i := 6) rfl)
theorem wd7 {Z : State} {a0 : Array Value} (hw : ∀ d ∈ tables_1, d.before a0 Z = true) : ((Jvm.Cond.laysStatic "com/example/object_access_rules/objectaccessrules/StatusCode" "OK" "Lcom/example/object_access_rules/objectaccessrules/StatusCode;") : Jvm.Cond).before a0 Z = true := hw _ (List.mem_of_getElem? (i := 7) rfl)
theorem wd82 {Z : State} {a0 : Array Value} (hw : ∀ d ∈ tables_1, d.before a0 Z = true) : ((Jvm.Cond.laysStatic "com/example/object_access_rules/objectaccessrules/Decision" "NOT_APPLICABLE" "Lcom/example/object_access_rules/objectaccessrules/Decision;") : Jvm.Cond).before a0 Z = true := hw _ (List.mem_of_getElem? (i := 82) rfl)
theorem wd95 {Z : State} {a0 : Array Value} (hw : ∀ d ∈ tables_1, d.before a0 Z = true) : ((Jvm.Cond.laysStatic "com/example/object_access_rules/objectaccessrules/Decision" "DENY" "Lcom/example/object_access_rules/objectaccessrules/Decision;") : Jvm.Cond).before a0 Z = true := hw _ (List.mem_of_getElem? (i := 95) rfl)
theorem wd101 {Z : State} {a0 : Array Value} (hw : ∀ d ∈ tables_1, d.before a0 Z = true) : ((Jvm.Cond.laysStatic "com/example/object_access_rules/objectaccessrules/StatusCode" "SYNTAX_ERROR" "Lcom/example/object_access_rules/objectaccessrules/StatusCode;") : Jvm.Cond).before a0 Z = true := hw _ (List.mem_of_getElem? (i := 101) rfl)
theorem wd103 {Z : State} {a0 : Array Value} (hw : ∀ d ∈ tables_1, d.before a0 Z = true) : ((Jvm.Cond.laysStatic "com/example/object_access_rules/objectaccessrules/StatusCode" "MISSING_ATTRIBUTE" "Lcom/example/object_access_rules/objectaccessrules/StatusCode;") : Jvm.Cond).before a0 Z = true := hw _ (List.mem_of_getElem? (i := 103) rfl)
theorem wd123 {Z : State} {a0 : Array Value} (hw : ∀ d ∈ tables_1, d.before a0 Z = true) : ((Jvm.Cond.laysStatic "com/example/object_access_rules/objectaccessrules/StatusCode" "PROCESSING_ERROR" "Lcom/example/object_access_rules/objectaccessrules/StatusCode;") : Jvm.Cond).before a0 Z = true := hw _ (List.mem_of_getElem? (i := 123) rfl)
abbrev own_EL : List (String × Nat) := [("com/example/object_access_rules/objectaccessrules/Result", 7), ("com/example/object_access_rules/objectaccessrules/Result", 17), ("com/example/object_access_rules/objectaccessrules/Result", 30), ("com/example/object_access_rules/objectaccessrules/Result", 37), ("com/example/object_access_rules/objectaccessrules/ResultOriginPinLaw", 40)]
theorem own_EW {Z : State} {a0 : Array Value} (hw : ∀ d ∈ tables_1, d.before a0 Z = true) : EW Z a0 own_EL := (EW.cons (wd96 hw) (by decide) (EW.cons (wd28 hw) (by decide) (EW.cons (wd37 hw) (by decide) (EW.cons (wd42 hw) (by decide) (EW.cons (wd8 hw) (by decide) EW.nil)))))
theorem own_wS {Z : State} {a0 : Array Value} (hw : ∀ d ∈ tables_1, d.before a0 Z = true) : ∀ a ∈ Bundle.stringAtoms, a.before a0 Z = true := fun d hd => hw d ((by decide +kernel : ∀ d ∈ Bundle.stringAtoms, d ∈ tables_1) d hd)
theorem own_safeNull {Z : State} {EL : List (String × Nat)} {vm : Vm} {h : Heap} {a : Addr} (hal : Z.vm.Alike vm) (E : Exa Z h a "java/lang/String") (F : Fld Z h a "java/lang/String" "value" "[B" .null) : Safe Z EL vm h a := fun B => by
  obtain ⟨p, -, u, a', -, q, -, G, rfl | rfl⟩ := B
  · obtain ⟨cell, cf, k, i, f, h1, h2, -, -, -, -, h7⟩ := F
    cases (show h[q.sa]? = some q.sC from G.ha).symm.trans h1
    obtain ⟨cS, ⟨⟨-, -, -, ⟨c1, k1, i1, g1, -⟩, -, -, -, g2, -⟩, -⟩, -⟩ := G
    obtain ⟨k', g3⟩ := ff_back (U := Wst Z vm h) hal g1
    cases g3.symm.trans h2
    rw [g2] at h7
    cases h7
  · obtain ⟨cell, k, e1, e2, -⟩ := E
    cases (show h[q.sd]? = some q.SA from G.hd).symm.trans e1
    obtain ⟨cS, -, -, f, -⟩ := G
    have f' : Z.vm.findClass "[B" = some q.SA.cls := by rw [← hal.findClass]; exact f
    exact ids_ne e2 f' (by decide) rfl
section OwnW
variable {p : Program} {l : Launch} {e : Env} {R : Room} {s : State} {m : MethodId} {args : Array Value} {below : List Frame} {meth : Method} {c : Code} {T : State} {locs : List Loc} {cells slots : Nat} {Z : State} {a0 : Array Value} {h : Heap} {vm0 : Vm} {EL : List (String × Nat)}
theorem own_retW {S : State} {Q : Option Value → Vm → Heap → List Loc → Prop} {C N k0 : Nat} (X : Stand p l e R (s.setVm vm0) m args below meth c T locs cells slots) (hS : s.Since vm0 k0) (hk : k0 ≤ T.heap.size) {v : Option Value} (hv : meth.sig.returnType = none → v = none) (hlocks : meth.locks = false) (hq : Q v T.vm T.heap locs) (hR : CHr Z EL s.vm s.heap T.vm T.heap) (hc : cells ≤ C) (hs : slots ≤ N)
    (k : ∀ fs, (∀ (f : JFrame) (acts : List Action), f.method = m → f.locked = none → f.entered = [] → (doReturn e (T.setTop f) acts v).1 = T.setFrames fs) → Steps p.tables e below S (T.setFrames fs)) :
    own_Done p e below (fun o U' => ∃ v L, o = .returned v ∧ Q v U'.vm U'.heap L ∧ CHr Z EL s.vm s.heap U'.vm U'.heap ∧ ReturnedEndW s o U' L C N) S := by
  obtain ⟨fs, hr, hrun, hended, h1, h2, h3, h4⟩ := X.leaveW hS hk hv hlocks
  exact ⟨_, _, k fs hr, hrun, hended, v, locs, rfl, hq, hR, h1, h2, h3, h4.mono hc hs⟩
theorem own_backW {y : MethodName} {bytes : ByteArray} {maxL : Nat} {ret : Option FieldType} {rm : Room} {len W : Nat} {as' : Array Value} {SL : List Addr} {Q : Option Value → Vm → Heap → List Loc → Prop}
    (hM : MetFree l y (head1 [Cond.code y bytes maxL ret] rm) (fun a U => a = as' ∧ Z.Warmed39 U.vm ∧ U.heap = h ∧ CHv Z EL U.vm h ∧ ∀ x ∈ SL, Safe Z EL U.vm h x) (fun _ _ _ _ _ => True) (fun _ U o U' => ∃ v L, o = .returned v ∧ Q v U'.vm U'.heap L ∧ CHr Z EL U.vm U.heap U'.vm U'.heap ∧ ReturnedEndW U o U' L rm.cells rm.slots))
    (hZ : Z.Warmed39 vm0) (wc : (Cond.code y bytes maxL ret).before a0 Z = true) (wz : (Cond.initialized y.cls).before a0 Z = true) (hf : rm.frames + 1 ≤ R.frames) (hl : W + (maxL + 11) + rm.locals ≤ R.locals) (hEL : EW Z a0 EL) (H : CHv Z EL vm0 h) (hSL : ∀ x ∈ SL, x < h.size ∧ Safe Z EL vm0 h x) :
    BackS l R p e below (s.setVm vm0) args y len W (fun A a => a = as' ∧ A.U.heap = h ∧ A.cells + rm.cells ≤ R.cells ∧ A.slots + rm.slots ≤ R.slots)
      (fun A _ v B => ∃ L, (Q v B.U.vm B.U.heap L ∧ CHr Z EL vm0 h B.U.vm B.U.heap) ∧ B.locs = A.locs ++ L ∧ B.cells = A.cells + rm.cells ∧ B.slots = A.slots + rm.slots) :=
  BackS.of_freeW (bytes := bytes) (maxL := maxL) (ret := ret) (E := fun _ first o t L k n => k = rm.cells ∧ n = rm.slots ∧ (∃ v, o = .returned v ∧ Q v t.vm t.heap L) ∧ CHr Z EL first.vm first.heap t.vm t.heap) hM hf hl
    (fun m meth c A a Y hp => have hU : Z.Warmed39 A.U.vm := wtrans (s := s.setVm vm0) hZ Y.warmed
      ⟨by show (Cond.and _ .tt).before a A.U = true; rw [Cond.before_and, mv hU wc]; rfl, mv hU wc, mv hU wz, hp.2.2.1, hp.2.2.2⟩)
    (fun m meth c A a g mk Y hp => have A1 := CHv.at Y hZ hEL H
      ⟨hp.1, wtrans (s := s.setVm vm0) hZ Y.warmed, hp.2.1, A1.1, fun x hx => A1.safe (hSL x hx).1 (hSL x hx).2⟩)
    (fun _ _ _ _ _ _ _ _ _ => trivial)
    (fun _ _ _ _ ⟨v, L, h1, h2, h3, h4⟩ => ⟨L, _, _, h4, rfl, rfl, ⟨v, h1, h2⟩, h3⟩)
    (fun m meth c A a g mk v t L k n Y hp _ _ q => by
      obtain ⟨e1, e2, ⟨v', e3, e4⟩, e5⟩ := q
      cases e3
      subst e1 e2
      have e6 : CHr Z EL A.U.vm h t.vm t.heap := by rw [← hp.2.1]; exact e5
      exact ⟨L, ⟨e4, (CHv.at Y hZ hEL H).trans e6⟩, rfl, rfl, rfl⟩)
end OwnW
theorem own_and255 (y : Int32) : ¬ (y &&& (255 : Int32)).toUInt32.toUInt16.toUInt32.toInt32 < 0 ∧ ¬ (255 : Int32) < (y &&& (255 : Int32)).toUInt32.toUInt16.toUInt32.toInt32 := by
  have t : ∀ k : Fin 256, ¬ (Int32.ofNat k.val).toUInt32.toUInt16.toUInt32.toInt32 < 0 ∧ ¬ (255 : Int32) < (Int32.ofNat k.val).toUInt32.toUInt16.toUInt32.toInt32 := by decide +kernel
  have h : (y &&& 255).toBitVec.toNat < 256 := by
    simp only [Int32.toBitVec_and, BitVec.toNat_and]
    exact Nat.lt_succ_of_le Nat.and_le_right
  have e : y &&& 255 = Int32.ofNat (y &&& 255).toBitVec.toNat := by
    apply Int32.toBitVec_inj.mp
    apply BitVec.eq_of_toNat_eq
    simp only [Int32.toBitVec_ofNat', BitVec.toNat_ofNat]
    omega
  rw [e]
  exact t ⟨_, h⟩
theorem own_cases256 {c : Int32} (h : ¬ c < 0 ∧ ¬ (255 : Int32) < c) : ∃ k : Fin 256, c = Int32.ofNat k.val := by
  have h1 : 0 ≤ c.toInt := by have := h.1; rw [Int32.lt_iff_toInt_lt] at this; simpa using this
  have h2 : c.toInt ≤ 255 := by have := h.2; rw [Int32.lt_iff_toInt_lt] at this; have e : (255 : Int32).toInt = 255 := rfl; omega
  refine ⟨⟨c.toInt.toNat, by omega⟩, ?_⟩
  apply Int32.toInt_inj.mp
  rw [Int32.toInt_ofNat_small (by show c.toInt.toNat < 2 ^ 31; omega)]
  show c.toInt = (c.toInt.toNat : Int)
  omega
theorem own_narc {c : Int32} (h : ¬ c < 0 ∧ ¬ (255 : Int32) < c) : nar .char c = c := by
  obtain ⟨k, rfl⟩ := own_cases256 h
  have t : ∀ k : Fin 256, nar .char (Int32.ofNat k.val) = Int32.ofNat k.val := by decide +kernel
  exact t k
theorem own_fitc {c : Int32} (h : ¬ c < 0 ∧ ¬ (255 : Int32) < c) : fits .char (.int c) = true := by
  have q := fits_nar_char c
  rw [own_narc h] at q
  exact q
theorem own_up (cs : List Int32) (h : ∀ c ∈ cs, ¬ c < 0 ∧ ¬ (255 : Int32) < c) : ∀ c ∈ cs, ¬ c < 0 ∧ ¬ (65535 : Int32) < c := fun c hc => ⟨(h c hc).1, fun q => (h c hc).2 (by rw [Int32.lt_iff_toInt_lt] at q ⊢; have e1 : (65535 : Int32).toInt = 65535 := rfl; have e2 : (255 : Int32).toInt = 255 := rfl; omega)⟩
theorem own_ord {args : Array Value} {s : State} {u : Term} {w : Addr} {C n d : String} {k : Int32} (ev : u.eval args s none [] s = some (.ref w)) (h : (Cond.eq (Term.field u C n d) (Term.int k)).value args s none s [] = some true) : s.fieldOf? w C n d = some (.int k) := by
  simp only [Cond.value, fld_at ev, Term.int_eval] at h
  rcases hv : s.fieldOf? w C n d with _ | v
  · rw [hv] at h; simp at h
  · rw [hv] at h
    cases v <;> simp at h
    subst h
    rfl
def own_d4 (a b c d : Addr) : Prop := ¬ (a = b) ∧ ¬ (a = c) ∧ ¬ (a = d) ∧ ¬ (b = c) ∧ ¬ (b = d) ∧ ¬ (c = d)
theorem own_scx {ee : Int32} {z wO wM wG wY : Addr} (hS : own_d4 wO wM wG wY) (h : z = (if ee = (0 : Int32) then wM else (if ee = (1 : Int32) then wG else wY))) : ¬ (z = wO) := by
  obtain ⟨b1, b2, b3, -⟩ := hS
  rw [h]
  split
  · exact fun q => b1 q.symm
  · split
    · exact fun q => b2 q.symm
    · exact fun q => b3 q.symm
theorem own_ltt {x a b : Int32} (h : x < a) (q : a ≤ b) : x < b := Int32.lt_of_lt_of_le h q
theorem own_dp0 {p dp : Int32} (hd : dp = (p &&& (3 : Int32))) (h : dp < (1 : Int32)) : dp = (0 : Int32) := by
  have e := c_mask p 3 2 (by decide) (by decide)
  have h1 : 0 ≤ p.toInt % (2 ^ 2 : Nat) := Int.emod_nonneg _ (by decide)
  rw [Int32.lt_iff_toInt_lt] at h
  have e1 : (1 : Int32).toInt = 1 := rfl
  rw [hd] at h ⊢
  apply Int32.toInt_inj.mp
  have e0 : (0 : Int32).toInt = 0 := rfl
  omega
def Q_own_rnn (Z : State) (a : Addr) (ms : Addr) (h0 : Heap) (n0 : Nat) (v : Option Value) (h : Heap) (L : List Loc) : Prop := v = some (.ref a) ∧ L = [] ∧ h = h0
set_option maxRecDepth 65536 in
set_option maxHeartbeats 40000000 in
theorem own_rnn (l : Launch) (Z : State) (a0 : Array Value) (hw : ∀ d ∈ tables_1, d.before a0 Z = true) (ws : List Jvm.Cond) (a : Addr) (ms : Addr) (h0 : Heap) (n0 : Nat) (O0 : Old Z n0 h0) :
    MetFree l mt0 (head1 (Jvm.Cond.code mt0 jdk_31_method_11_code 2 (some (.object "java/lang/Object")) :: ws) ({ frames := 0, cells := 0, slots := 0, locals := 0 } : Room)) (fun aq U => aq = #[(.ref a), (.ref ms)] ∧ Z.Warmed39 U.vm ∧ U.heap = h0) (fun _ _ _ _ _ => True) (fun _ U o U' => ∃ v L, o = .returned v ∧ Q_own_rnn Z a ms h0 n0 v U'.heap L ∧ FrameEnd U o U' L ({ frames := 0, cells := 0, slots := 0, locals := 0 } : Room).cells ({ frames := 0, cells := 0, slots := 0, locals := 0 } : Room).slots) := by
  refine MetFree.of_bodySF (plainFor_of_name pn_java_util_Objects) hisR ?_
  intro p e s m args below meth c s₁ Bd hml0 hP hK
  obtain ⟨rfl, hZ, hh⟩ := hP
  have hx := Bd.exec
  have hby := Bd.bytes
  have hml : c.maxLocals = 2 := hml0
  have hown : s.vm.findClass "java/util/Objects" = some m.cls := findClass_of_methodNamed Bd.named
  have hnm := (name_of_methodNamed Bd.named Bd.method).1
  have X0 : Stand p l e ({ frames := 0, cells := 0, slots := 0, locals := 0 } : Room) s m #[(.ref a), (.ref ms)] below meth c s₁ [] 0 0 := Stand.of_body Bd
  have e0 : s₁.heap = h0 := by rw [← hh, Bd.state]; rfl
  have N0 := Fr.nil n0
  have zO := O0.1
  have zO2 := O0.2.1
  refine own_open (own_via (S' := s₁.setTop (mkF m 0 #[.val (.ref a), .val (.ref ms)] [])) (fun t k => castTop (ef_own_rnn m a ms) k) ?_)
  refine own_via (S' := s₁.setTop (mkF m 1 #[.val (.ref a), .val (.ref ms)] [(.ref a)])) (fun t k => XS.aloadN X0.here hx rfl (hb hby d4_0) rfl rfl k) ?_
  refine own_via (S' := s₁.setTop (mkF m 13 #[.val (.ref a), .val (.ref ms)] [])) (fun t k => XS.ifnonnullYes X0.here hx rfl (pc0 := 1) (pc' := 13) rfl (hb hby d4_1) rfl (by decide) (by decide) k) ?_
  refine own_via (S' := s₁.setTop (mkF m 14 #[.val (.ref a), .val (.ref ms)] [(.ref a)])) (fun t k => XS.aloadN X0.here hx rfl (hb hby d4_13) rfl rfl k) ?_
  refine own_ret (Q := Q_own_rnn Z a ms h0 n0) (C := ({ frames := 0, cells := 0, slots := 0, locals := 0 } : Room).cells) (N := ({ frames := 0, cells := 0, slots := 0, locals := 0 } : Room).slots) X0 (v := some (.ref a)) (fun h => by rw [Bd.returns] at h; cases h) Bd.notSynchronized ?_ (by decide) (by decide) (fun fs hr => retOut X0 hx Bd.returns rfl (Or.inr (Or.inr (Or.inr (Or.inr ⟨rfl, rfl, rfl⟩)))) (hb hby d4_14) hr)
  show Q_own_rnn Z a ms h0 n0 _ s₁.heap _
  rw [e0]
  exact ⟨rfl, rfl, rfl⟩
def Q_own_empty (Z : State) (ms : Addr) (tm : Addr) (km : ClassId) (zl : Int32) (vsm : List Value) (h0 : Heap) (n0 : Nat) (v : Option Value) (h : Heap) (L : List Loc) : Prop := ∃ z : Int32, v = some (.int z) ∧ L = [] ∧ h = h0 ∧ (z = (if zl = (0 : Int32) then (1 : Int32) else (0 : Int32)))
set_option maxRecDepth 65536 in
set_option maxHeartbeats 40000000 in
theorem own_empty (l : Launch) (Z : State) (a0 : Array Value) (hw : ∀ d ∈ tables_1, d.before a0 Z = true) (ws : List Jvm.Cond) (ms : Addr) (tm : Addr) (km : ClassId) (zl : Int32) (vsm : List Value) (h0 : Heap) (n0 : Nat) (O0 : Old Z n0 h0) (f0_F_ms_value : Fld Z h0 ms "java/lang/String" "value" "[B" (.ref tm)) (f0_A_tm : Arv Z h0 tm km .byte zl vsm (.int (0 : Int32))) :
    MetFree l mt1 (head1 (Jvm.Cond.code mt1 jdk_42_method_55_code 1 (some .boolean) :: ws) ({ frames := 0, cells := 0, slots := 0, locals := 0 } : Room)) (fun aq U => aq = #[(.ref ms)] ∧ Z.Warmed39 U.vm ∧ U.heap = h0) (fun _ _ _ _ _ => True) (fun _ U o U' => ∃ v L, o = .returned v ∧ Q_own_empty Z ms tm km zl vsm h0 n0 v U'.heap L ∧ FrameEnd U o U' L ({ frames := 0, cells := 0, slots := 0, locals := 0 } : Room).cells ({ frames := 0, cells := 0, slots := 0, locals := 0 } : Room).slots) := by
  refine MetFree.of_bodySF (plainFor_of_name pn_java_lang_String) hisR ?_
  intro p e s m args below meth c s₁ Bd hml0 hP hK
  obtain ⟨rfl, hZ, hh⟩ := hP
  have hx := Bd.exec
  have hby := Bd.bytes
  have hml : c.maxLocals = 1 := hml0
  have hown : s.vm.findClass "java/lang/String" = some m.cls := findClass_of_methodNamed Bd.named
  have hnm := (name_of_methodNamed Bd.named Bd.method).1
  have X0 : Stand p l e ({ frames := 0, cells := 0, slots := 0, locals := 0 } : Room) s m #[(.ref ms)] below meth c s₁ [] 0 0 := Stand.of_body Bd
  have e0 : s₁.heap = h0 := by rw [← hh, Bd.state]; rfl
  have N0 := Fr.nil n0
  have zO := O0.1
  have zO2 := O0.2.1
  have fl_F_ms_value : h0.size > ms := f0_F_ms_value.lt
  have fl_A_tm : h0.size > tm := f0_A_tm.lt
  refine own_open (own_via (S' := s₁.setTop (mkF m 0 #[.val (.ref ms)] [])) (fun t k => castTop (ef_own_empty m ms) k) ?_)
  refine own_via (S' := s₁.setTop (mkF m 1 #[.val (.ref ms)] [(.ref ms)])) (fun t k => XS.aloadN X0.here hx rfl (hb hby d5_0) rfl rfl k) ?_
  obtain ⟨T1, X1, e1, st1⟩ := getF X0 hx hZ hown (host := "") (Or.inl (wd54 hw)) Via.refl e0 f0_F_ms_value (g := (mkF m 1 #[.val (.ref ms)] [(.ref ms)])) rfl rfl (hb hby d5_1)
  refine own_via (S' := T1.setTop (mkF m 4 #[.val (.ref ms)] [(.ref tm)])) st1 ?_
  obtain ⟨cl2, Ar2, -, S2, N2, -, -⟩ := id f0_A_tm
  refine own_via (S' := T1.setTop (mkF m 5 #[.val (.ref ms)] [(.int zl)])) (fun t k => X1.arraylength hx (by first | (rw [e1]; exact Ar2.1) | exact Ar2.1) (State.isArrayOf_alike hZ.alike Ar2.2.1) (g := (mkF m 4 #[.val (.ref ms)] [(.ref tm)])) rfl rfl (hb hby d5_4) _ (by rw [len_of S2 N2]; exact k)) ?_
  by_cases hc5_3 : zl = (0 : Int32)
  · -- yes
    refine own_via (S' := T1.setTop (mkF m 8 #[.val (.ref ms)] [])) (fun t k => XS.ifNo X1.here hx rfl (hb hby d5_5) rfl ((if0 _ _).trans (teq hc5_3).2) k) ?_
    refine own_via (S' := T1.setTop (mkF m 9 #[.val (.ref ms)] [(.int (1 : Int32))])) (fun t k => XS.iconst X1.here hx rfl (hb hby d5_8) k) ?_
    refine own_via (S' := T1.setTop (mkF m 13 #[.val (.ref ms)] [(.int (1 : Int32))])) (fun t k => XS.goto X1.here hx rfl (pc0 := 9) (pc' := 13) rfl (hb hby d5_9) (by decide) (by decide) k) ?_
    refine own_ret (Q := Q_own_empty Z ms tm km zl vsm h0 n0) (C := ({ frames := 0, cells := 0, slots := 0, locals := 0 } : Room).cells) (N := ({ frames := 0, cells := 0, slots := 0, locals := 0 } : Room).slots) X1 (v := some (.int (1 : Int32))) (fun h => by rw [Bd.returns] at h; cases h) Bd.notSynchronized ?_ (by decide) (by decide) (fun fs hr => retN X1 hx (t := .boolean) Bd.returns (by simp) (hb hby d5_13) hr)
    show Q_own_empty Z ms tm km zl vsm h0 n0 _ T1.heap _
    rw [e1]
    exact ⟨(1 : Int32), rfl, rfl, rfl, ((if_pos hc5_3)).symm⟩
  · -- no
    refine own_via (S' := T1.setTop (mkF m 12 #[.val (.ref ms)] [])) (fun t k => XS.ifYes X1.here hx rfl (pc0 := 5) (pc' := 12) rfl (hb hby d5_5) rfl ((if0 _ _).trans (feq hc5_3).2) (by decide) (by decide) k) ?_
    refine own_via (S' := T1.setTop (mkF m 13 #[.val (.ref ms)] [(.int (0 : Int32))])) (fun t k => XS.iconst X1.here hx rfl (hb hby d5_12) k) ?_
    refine own_ret (Q := Q_own_empty Z ms tm km zl vsm h0 n0) (C := ({ frames := 0, cells := 0, slots := 0, locals := 0 } : Room).cells) (N := ({ frames := 0, cells := 0, slots := 0, locals := 0 } : Room).slots) X1 (v := some (.int (0 : Int32))) (fun h => by rw [Bd.returns] at h; cases h) Bd.notSynchronized ?_ (by decide) (by decide) (fun fs hr => retN X1 hx (t := .boolean) Bd.returns (by simp) (hb hby d5_13) hr)
    show Q_own_empty Z ms tm km zl vsm h0 n0 _ T1.heap _
    rw [e1]
    exact ⟨(0 : Int32), rfl, rfl, rfl, ((if_neg hc5_3)).symm⟩
def Q_own_r5N (Z : State) (a : Addr) (d : Addr) (sc : Addr) (ms : Addr) (tm : Addr) (km : ClassId) (zl : Int32) (vsm : List Value) (wI : Addr) (wO : Addr) (h0 : Heap) (n0 : Nat) (v : Option Value) (vm : Vm) (h : Heap) (L : List Loc) : Prop := v = none ∧ Fr n0 L ∧ Keep h0 h [a] ∧ Fld Z h a "com/example/object_access_rules/objectaccessrules/Result" "decision" "Lcom/example/object_access_rules/objectaccessrules/Decision;" (.ref d) ∧ Fld Z h a "com/example/object_access_rules/objectaccessrules/Result" "status" "Lcom/example/object_access_rules/objectaccessrules/StatusCode;" (.ref sc) ∧ Fld Z h a "com/example/object_access_rules/objectaccessrules/Result" "message" "Ljava/lang/String;" (.ref ms) ∧ Fld Z h a "com/example/object_access_rules/objectaccessrules/Result" "step" "Ljava/lang/String;" .null ∧ Fld Z h a "com/example/object_access_rules/objectaccessrules/Result" "below" "Lcom/example/object_access_rules/objectaccessrules/Result;" .null
set_option maxRecDepth 65536 in
set_option maxHeartbeats 40000000 in
theorem own_r5N (l : Launch) (Z : State) (a0 : Array Value) (hw : ∀ d ∈ tables_1, d.before a0 Z = true) (ws : List Jvm.Cond) (a : Addr) (d : Addr) (sc : Addr) (ms : Addr) (tm : Addr) (km : ClassId) (zl : Int32) (vsm : List Value) (wI : Addr) (wO : Addr) (h0 : Heap) (n0 : Nat) (O0 : Old Z n0 h0) (zf_S_com_example_object_access_rules_objectaccessrules_Decision_INDETERMINATE : Sta Z Z.heap "com/example/object_access_rules/objectaccessrules/Decision" "INDETERMINATE" "Lcom/example/object_access_rules/objectaccessrules/Decision;" (.ref wI)) (zf_S_com_example_object_access_rules_objectaccessrules_StatusCode_OK : Sta Z Z.heap "com/example/object_access_rules/objectaccessrules/StatusCode" "OK" "Lcom/example/object_access_rules/objectaccessrules/StatusCode;" (.ref wO)) (f0_E_a : Exa Z h0 a "com/example/object_access_rules/objectaccessrules/Result") (f0_F_a_decision : Fld Z h0 a "com/example/object_access_rules/objectaccessrules/Result" "decision" "Lcom/example/object_access_rules/objectaccessrules/Decision;" .null) (f0_F_a_status : Fld Z h0 a "com/example/object_access_rules/objectaccessrules/Result" "status" "Lcom/example/object_access_rules/objectaccessrules/StatusCode;" .null) (f0_F_a_message : Fld Z h0 a "com/example/object_access_rules/objectaccessrules/Result" "message" "Ljava/lang/String;" .null) (f0_F_a_step : Fld Z h0 a "com/example/object_access_rules/objectaccessrules/Result" "step" "Ljava/lang/String;" .null) (f0_F_a_below : Fld Z h0 a "com/example/object_access_rules/objectaccessrules/Result" "below" "Lcom/example/object_access_rules/objectaccessrules/Result;" .null) (f0_E_d : Exa Z h0 d "com/example/object_access_rules/objectaccessrules/Decision") (f0_E_sc : Exa Z h0 sc "com/example/object_access_rules/objectaccessrules/StatusCode") (f0_E_ms : Exa Z h0 ms "java/lang/String") (f0_F_ms_value : Fld Z h0 ms "java/lang/String" "value" "[B" (.ref tm)) (f0_A_tm : Arv Z h0 tm km .byte zl vsm (.int (0 : Int32))) (g_a : n0 ≤ a) (hcons : (d = wI ∧ ¬ (sc = wO)) ∨ (¬ (d = wI) ∧ sc = wO ∧ zl = (0 : Int32))) :
    MetFree l mt2 (head1 (Jvm.Cond.code mt2 prog_37_method_3_code 6 none :: ws) ({ frames := 1, cells := 6, slots := 96, locals := 14 } : Room)) (fun aq U => aq = #[(.ref a), (.ref d), (.ref sc), (.ref ms), .null, .null] ∧ Z.Warmed39 U.vm ∧ U.heap = h0 ∧ CHv Z own_EL U.vm h0 ∧ ∀ x ∈ ([] : List Addr), Safe Z own_EL U.vm h0 x) (fun _ _ _ _ _ => True) (fun _ U o U' => ∃ v L, o = .returned v ∧ Q_own_r5N Z a d sc ms tm km zl vsm wI wO h0 n0 v U'.vm U'.heap L ∧ CHr Z own_EL U.vm U.heap U'.vm U'.heap ∧ ReturnedEndW U o U' L ({ frames := 1, cells := 6, slots := 96, locals := 14 } : Room).cells ({ frames := 1, cells := 6, slots := 96, locals := 14 } : Room).slots) := by
  refine MetFree.of_bodySF (plainFor_of_name pn_com_example_object_access_rules_objectaccessrules_Result) hisR ?_
  intro p e s m args below meth c s₁ Bd hml0 hP hK
  obtain ⟨rfl, hZ, hh, hCH, hSL⟩ := hP
  have hx := Bd.exec
  have hby := Bd.bytes
  have hml : c.maxLocals = 6 := hml0
  have hown : s.vm.findClass "com/example/object_access_rules/objectaccessrules/Result" = some m.cls := findClass_of_methodNamed Bd.named
  have hnm := (name_of_methodNamed Bd.named Bd.method).1
  have X0 : Stand p l e ({ frames := 1, cells := 6, slots := 96, locals := 14 } : Room) (s.setVm s.vm) m #[(.ref a), (.ref d), (.ref sc), (.ref ms), .null, .null] below meth c s₁ [] 0 0 := Stand.of_body Bd
  have e0 : s₁.heap = h0 := by rw [← hh, Bd.state]; rfl
  have N0 := Fr.nil n0
  have zO := O0.1
  have zO2 := O0.2.1
  have fl_E_a : h0.size > a := f0_E_a.lt
  have fl_F_a_decision : h0.size > a := f0_F_a_decision.lt
  have fl_F_a_status : h0.size > a := f0_F_a_status.lt
  have fl_F_a_message : h0.size > a := f0_F_a_message.lt
  have fl_F_a_step : h0.size > a := f0_F_a_step.lt
  have fl_F_a_below : h0.size > a := f0_F_a_below.lt
  have fl_E_d : h0.size > d := f0_E_d.lt
  have fl_E_sc : h0.size > sc := f0_E_sc.lt
  have fl_E_ms : h0.size > ms := f0_E_ms.lt
  have fl_F_ms_value : h0.size > ms := f0_F_ms_value.lt
  have fl_A_tm : h0.size > tm := f0_A_tm.lt
  refine own_open (own_via (S' := s₁.setTop (mkF m 0 #[.val (.ref a), .val (.ref d), .val (.ref sc), .val (.ref ms), .val .null, .val .null] [])) (fun t k => castTop (ef_own_r5N m a d sc ms) k) ?_)
  have hEL := own_EW hw
  have hS0 : s.Since s.vm h0.size := (State.WarmedH.refl s).since _
  have R0 : CHr Z own_EL s.vm h0 s.vm h0 := CHr.refl hCH
  have K0 : Keep h0 h0 [a] := Keep.refl _ _
  have ne_a_d : a ≠ d := Exa.ne f0_E_a f0_E_d (by decide)
  have ne_a_sc : a ≠ sc := Exa.ne f0_E_a f0_E_sc (by decide)
  have ne_a_ms : a ≠ ms := Exa.ne f0_E_a f0_E_ms (by decide)
  have ne_a_tm : a ≠ tm := Exa.neArv f0_E_a f0_A_tm (wd17 hw)
  have ne_d_sc : d ≠ sc := Exa.ne f0_E_d f0_E_sc (by decide)
  have ne_d_ms : d ≠ ms := Exa.ne f0_E_d f0_E_ms (by decide)
  have ne_sc_ms : sc ≠ ms := Exa.ne f0_E_sc f0_E_ms (by decide)
  have ne_ms_tm : ms ≠ tm := Exa.neArv f0_E_ms f0_A_tm (wd10 hw)
  refine own_via (S' := s₁.setTop (mkF m 1 #[.val (.ref a), .val (.ref d), .val (.ref sc), .val (.ref ms), .val .null, .val .null] [(.ref a)])) (fun t k => XS.aloadN X0.here hx rfl (hb hby d2_0) rfl rfl k) ?_
  obtain ⟨T1, X1, e1, st1⟩ := initO X0 hx hZ hown (wd25 hw) (wd26 hw) (wd27 hw) e0 (g := (mkF m 1 #[.val (.ref a), .val (.ref d), .val (.ref sc), .val (.ref ms), .val .null, .val .null] [(.ref a)])) rfl (by rw [hml]; rfl) rfl (hb hby d2_1) (by decide) (W := 0) (by show 2 * 0 + _ ≤ _; exact Nat.le_of_eq rfl) (by decide)
  refine own_via (S' := T1.setTop (mkF m 4 #[.val (.ref a), .val (.ref d), .val (.ref sc), .val (.ref ms), .val .null, .val .null] [])) st1 ?_
  refine own_via (S' := T1.setTop (mkF m 5 #[.val (.ref a), .val (.ref d), .val (.ref sc), .val (.ref ms), .val .null, .val .null] [(.ref a)])) (fun t k => XS.aloadN X1.here hx rfl (hb hby d2_4) rfl rfl k) ?_
  refine own_via (S' := T1.setTop (mkF m 6 #[.val (.ref a), .val (.ref d), .val (.ref sc), .val (.ref ms), .val .null, .val .null] [(.ref d), (.ref a)])) (fun t k => XS.aloadN X1.here hx rfl (hb hby d2_5) rfl rfl k) ?_
  obtain ⟨b2, T2, h2, kk2, t2, kb2, X2, e2, E2, hS2, hk2, hZ, hown, f2_0, f2_1, f2_2, f2_3, lta2, ltb2, R2q, hLit2, hsn2, st2⟩ := ldcCH X1 hx hZ hown (wd28 hw) (own_wS hw) e1 hS0 (by omega) hEL (List.mem_of_getElem? (i := 1) rfl) R0.1 (vs := [(.int (100 : Int32)), (.int (101 : Int32)), (.int (99 : Int32)), (.int (105 : Int32)), (.int (115 : Int32)), (.int (105 : Int32)), (.int (111 : Int32)), (.int (110 : Int32))]) (z := (8 : Int32)) ⟨by decide, rfl⟩ (by decide) rfl (g := (mkF m 6 #[.val (.ref a), .val (.ref d), .val (.ref sc), .val (.ref ms), .val .null, .val .null] [(.ref d), (.ref a)])) rfl (hb hby d2_6) (n := 32) (by decide) (by decide) (by decide) (by decide)
  have sz3 : h0.size ≤ h2.size := E2.1
  have O4 : Old Z n0 h2 := O0.ext E2
  have R5 : CHr Z own_EL s.vm h0 T2.vm h2 := R0.trans R2q
  have K6 : Keep h0 h2 [a] := K0.ext E2
  have lt_b2 : h2.size > b2 := lta2
  have lt_t2 : h2.size > t2 := ltb2
  have cx7 : Exa Z h2 a "com/example/object_access_rules/objectaccessrules/Result" := (f0_E_a.ext E2)
  have ne_a_b2 : a ≠ b2 := (hsn2 _ (Safe.exa hZ.alike cx7 (by decide) (by decide))).1
  have ne_a_t2 : a ≠ t2 := (hsn2 _ (Safe.exa hZ.alike cx7 (by decide) (by decide))).2
  have cx8 : Exa Z h2 d "com/example/object_access_rules/objectaccessrules/Decision" := (f0_E_d.ext E2)
  have ne_d_b2 : d ≠ b2 := (hsn2 _ (Safe.exa hZ.alike cx8 (by decide) (by decide))).1
  have ne_d_t2 : d ≠ t2 := (hsn2 _ (Safe.exa hZ.alike cx8 (by decide) (by decide))).2
  have cx9 : Exa Z h2 sc "com/example/object_access_rules/objectaccessrules/StatusCode" := (f0_E_sc.ext E2)
  have ne_sc_b2 : sc ≠ b2 := (hsn2 _ (Safe.exa hZ.alike cx9 (by decide) (by decide))).1
  have ne_sc_t2 : sc ≠ t2 := (hsn2 _ (Safe.exa hZ.alike cx9 (by decide) (by decide))).2
  refine own_via (S' := T2.setTop (mkF m 8 #[.val (.ref a), .val (.ref d), .val (.ref sc), .val (.ref ms), .val .null, .val .null] [(.ref b2), (.ref d), (.ref a)])) st2 ?_
  obtain ⟨_, _, ⟨T10, Lp10, kp10, np10⟩, -, X10, ⟨Lc10, hQ10, l10, y10, z10⟩, st10⟩ := Jvm.LawKit.callS X2 hx (y := mt0) hown (mvT hZ (wd29 hw)) (mvT hZ (wd30 hw)) (mvT hZ (wd31 hw)) (mvT hZ (wd32 hw)) (by decide) (backOf (W := 1) (own_rnn l Z a0 hw [] d b2 h2 n0 O4) hZ (wd32 hw) (wd31 hw) (by decide) (by decide)) (g := (mkF m 8 #[.val (.ref a), .val (.ref d), .val (.ref sc), .val (.ref ms), .val .null, .val .null] [(.ref b2), (.ref d), (.ref a)])) rfl (by rw [hml]; rfl) (argsL := [(.ref d), (.ref b2)]) (rest := [(.ref a)]) (lenOf pd__Ljava_lang_Object_Ljava_lang_String__Ljava_lang_Object__5105 rfl) rfl (by show 2 * 0 + _ ≤ _; exact Nat.le_of_eq rfl) (hb hby d2_8) (fun _ _ => ⟨rfl, e2, (by decide : 2 + 0 ≤ _), (by decide : 36 + 0 ≤ _)⟩)
  dsimp only [Pt.U, Pt.locs, Pt.cells, Pt.slots] at X10 l10 y10 z10 st10 hQ10
  subst Lp10 kp10 np10
  obtain ⟨rfl, rfl, e10⟩ := hQ10
  try rw [List.append_nil] at X10
  refine own_via (S' := T10.setTop (mkF m 11 #[.val (.ref a), .val (.ref d), .val (.ref sc), .val (.ref ms), .val .null, .val .null] [(.ref d), (.ref a)])) st10 ?_
  obtain ⟨T11, X11, e11, st11⟩ := castY X10 hx hZ hown (wd33 hw) e10 (Ins.self cx8) (g := (mkF m 11 #[.val (.ref a), .val (.ref d), .val (.ref sc), .val (.ref ms), .val .null, .val .null] [(.ref d), (.ref a)])) rfl rfl (hb hby d2_11)
  refine own_via (S' := T11.setTop (mkF m 14 #[.val (.ref a), .val (.ref d), .val (.ref sc), .val (.ref ms), .val .null, .val .null] [(.ref d), (.ref a)])) st11 ?_
  have cx12 : Fld Z h2 a "com/example/object_access_rules/objectaccessrules/Result" "decision" "Lcom/example/object_access_rules/objectaccessrules/Decision;" .null := (f0_F_a_decision.ext E2)
  obtain ⟨T13, h13, X13, e13, W13, st13⟩ := putF X11 hx hZ hown (host := "") (Or.inl (wd35 hw)) Via.refl e11 cx12 cx7 (Or.inr ⟨(wd36 hw), rfl, hnm⟩) (wd17 hw) (ty := (.object "com/example/object_access_rules/objectaccessrules/Decision")) (by decide) rfl rfl (g := (mkF m 14 #[.val (.ref a), .val (.ref d), .val (.ref sc), .val (.ref ms), .val .null, .val .null] [(.ref d), (.ref a)])) rfl rfl (hb hby d2_14)
  have sf13 : Safe Z own_EL T2.vm h2 a := (Safe.exa hZ.alike cx7 (by decide) (by decide))
  have sz14 : h2.size ≤ h13.size := Nat.le_of_eq W13.size.symm
  have R15 : CHr Z own_EL s.vm h0 T2.vm h13 := R5.trans (CHr.wr W13 sf13 R5.1)
  have O16 : Old Z n0 h13 := O4.wr W13 (by omega : n0 ≤ a)
  have N13 := Fr.snoc X13 N0 (by omega : n0 ≤ a)
  have K17 : Keep h0 h13 [a] := K6.wr W13 (Or.inl (List.mem_of_getElem? (i := 0) rfl))
  have Fw13 : Fld Z h13 a "com/example/object_access_rules/objectaccessrules/Result" "decision" "Lcom/example/object_access_rules/objectaccessrules/Decision;" (.ref d) := Fld.same W13 cx12
  refine own_via (S' := T13.setTop (mkF m 17 #[.val (.ref a), .val (.ref d), .val (.ref sc), .val (.ref ms), .val .null, .val .null] [])) st13 ?_
  refine own_via (S' := T13.setTop (mkF m 18 #[.val (.ref a), .val (.ref d), .val (.ref sc), .val (.ref ms), .val .null, .val .null] [(.ref a)])) (fun t k => XS.aloadN X13.here hx rfl (hb hby d2_17) rfl rfl k) ?_
  refine own_via (S' := T13.setTop (mkF m 19 #[.val (.ref a), .val (.ref d), .val (.ref sc), .val (.ref ms), .val .null, .val .null] [(.ref sc), (.ref a)])) (fun t k => XS.aloadN X13.here hx rfl (hb hby d2_18) rfl rfl k) ?_
  obtain ⟨b18, T18, h18, kk18, t18, kb18, X18, e18, E18, hS18, hk18, hZ, hown, f18_0, f18_1, f18_2, f18_3, lta18, ltb18, R18q, hLit18, hsn18, st18⟩ := ldcCH X13 hx hZ hown (wd37 hw) (own_wS hw) e13 hS2 (by omega) hEL (List.mem_of_getElem? (i := 2) rfl) R15.1 (vs := [(.int (115 : Int32)), (.int (116 : Int32)), (.int (97 : Int32)), (.int (116 : Int32)), (.int (117 : Int32)), (.int (115 : Int32))]) (z := (6 : Int32)) ⟨by decide, rfl⟩ (by decide) rfl (g := (mkF m 19 #[.val (.ref a), .val (.ref d), .val (.ref sc), .val (.ref ms), .val .null, .val .null] [(.ref sc), (.ref a)])) rfl (hb hby d2_19) (n := 24) (by decide) (by decide) (by decide) (by decide)
  have sz19 : h13.size ≤ h18.size := E18.1
  have O20 : Old Z n0 h18 := O16.ext E18
  have R21 : CHr Z own_EL s.vm h0 T18.vm h18 := R15.trans R18q
  have K22 : Keep h0 h18 [a] := K17.ext E18
  have lt_b18 : h18.size > b18 := lta18
  have lt_t18 : h18.size > t18 := ltb18
  have cx23 : Exa Z h18 a "com/example/object_access_rules/objectaccessrules/Result" := ((Exa.wr W13 cx7).ext E18)
  have ne_a_b18 : a ≠ b18 := (hsn18 _ (Safe.exa hZ.alike cx23 (by decide) (by decide))).1
  have ne_a_t18 : a ≠ t18 := (hsn18 _ (Safe.exa hZ.alike cx23 (by decide) (by decide))).2
  have cx24 : Exa Z h18 d "com/example/object_access_rules/objectaccessrules/Decision" := ((Exa.wr W13 cx8).ext E18)
  have ne_d_b18 : d ≠ b18 := (hsn18 _ (Safe.exa hZ.alike cx24 (by decide) (by decide))).1
  have ne_d_t18 : d ≠ t18 := (hsn18 _ (Safe.exa hZ.alike cx24 (by decide) (by decide))).2
  have cx25 : Exa Z h18 sc "com/example/object_access_rules/objectaccessrules/StatusCode" := ((Exa.wr W13 cx9).ext E18)
  have ne_sc_b18 : sc ≠ b18 := (hsn18 _ (Safe.exa hZ.alike cx25 (by decide) (by decide))).1
  have ne_sc_t18 : sc ≠ t18 := (hsn18 _ (Safe.exa hZ.alike cx25 (by decide) (by decide))).2
  refine own_via (S' := T18.setTop (mkF m 21 #[.val (.ref a), .val (.ref d), .val (.ref sc), .val (.ref ms), .val .null, .val .null] [(.ref b18), (.ref sc), (.ref a)])) st18 ?_
  obtain ⟨_, _, ⟨T26, Lp26, kp26, np26⟩, -, X26, ⟨Lc26, hQ26, l26, y26, z26⟩, st26⟩ := Jvm.LawKit.callS X18 hx (y := mt0) hown (mvT hZ (wd29 hw)) (mvT hZ (wd30 hw)) (mvT hZ (wd31 hw)) (mvT hZ (wd32 hw)) (by decide) (backOf (W := 1) (own_rnn l Z a0 hw [] sc b18 h18 n0 O20) hZ (wd32 hw) (wd31 hw) (by decide) (by decide)) (g := (mkF m 21 #[.val (.ref a), .val (.ref d), .val (.ref sc), .val (.ref ms), .val .null, .val .null] [(.ref b18), (.ref sc), (.ref a)])) rfl (by rw [hml]; rfl) (argsL := [(.ref sc), (.ref b18)]) (rest := [(.ref a)]) (lenOf pd__Ljava_lang_Object_Ljava_lang_String__Ljava_lang_Object__5105 rfl) rfl (by show 2 * 0 + _ ≤ _; exact Nat.le_of_eq rfl) (hb hby d2_21) (fun _ _ => ⟨rfl, e18, (by decide : 4 + 0 ≤ _), (by decide : 64 + 0 ≤ _)⟩)
  dsimp only [Pt.U, Pt.locs, Pt.cells, Pt.slots] at X26 l26 y26 z26 st26 hQ26
  subst Lp26 kp26 np26
  obtain ⟨rfl, rfl, e26⟩ := hQ26
  try rw [List.append_nil] at X26
  refine own_via (S' := T26.setTop (mkF m 24 #[.val (.ref a), .val (.ref d), .val (.ref sc), .val (.ref ms), .val .null, .val .null] [(.ref sc), (.ref a)])) st26 ?_
  obtain ⟨T27, X27, e27, st27⟩ := castY X26 hx hZ hown (wd38 hw) e26 (Ins.self cx25) (g := (mkF m 24 #[.val (.ref a), .val (.ref d), .val (.ref sc), .val (.ref ms), .val .null, .val .null] [(.ref sc), (.ref a)])) rfl rfl (hb hby d2_24)
  refine own_via (S' := T27.setTop (mkF m 27 #[.val (.ref a), .val (.ref d), .val (.ref sc), .val (.ref ms), .val .null, .val .null] [(.ref sc), (.ref a)])) st27 ?_
  have cx28 : Fld Z h18 a "com/example/object_access_rules/objectaccessrules/Result" "status" "Lcom/example/object_access_rules/objectaccessrules/StatusCode;" .null := ((Fld.other W13 (f0_F_a_status.ext E2) (Or.inr (slot_ne (Or.inr (wd41 hw)) (Or.inr (wd36 hw)) (by decide) (t := (.object "com/example/object_access_rules/objectaccessrules/StatusCode")) (t' := (.object "com/example/object_access_rules/objectaccessrules/Decision")) (by decide) (by decide)))).ext E18)
  obtain ⟨T29, h29, X29, e29, W29, st29⟩ := putF X27 hx hZ hown (host := "") (Or.inl (wd40 hw)) Via.refl e27 cx28 cx23 (Or.inr ⟨(wd41 hw), rfl, hnm⟩) (wd17 hw) (ty := (.object "com/example/object_access_rules/objectaccessrules/StatusCode")) (by decide) rfl rfl (g := (mkF m 27 #[.val (.ref a), .val (.ref d), .val (.ref sc), .val (.ref ms), .val .null, .val .null] [(.ref sc), (.ref a)])) rfl rfl (hb hby d2_27)
  have sf29 : Safe Z own_EL T18.vm h18 a := (Safe.exa hZ.alike cx23 (by decide) (by decide))
  have sz30 : h18.size ≤ h29.size := Nat.le_of_eq W29.size.symm
  have R31 : CHr Z own_EL s.vm h0 T18.vm h29 := R21.trans (CHr.wr W29 sf29 R21.1)
  have O32 : Old Z n0 h29 := O20.wr W29 (by omega : n0 ≤ a)
  have N29 := Fr.snoc X29 N13 (by omega : n0 ≤ a)
  have K33 : Keep h0 h29 [a] := K22.wr W29 (Or.inl (List.mem_of_getElem? (i := 0) rfl))
  have Fw29 : Fld Z h29 a "com/example/object_access_rules/objectaccessrules/Result" "status" "Lcom/example/object_access_rules/objectaccessrules/StatusCode;" (.ref sc) := Fld.same W29 cx28
  refine own_via (S' := T29.setTop (mkF m 30 #[.val (.ref a), .val (.ref d), .val (.ref sc), .val (.ref ms), .val .null, .val .null] [])) st29 ?_
  refine own_via (S' := T29.setTop (mkF m 31 #[.val (.ref a), .val (.ref d), .val (.ref sc), .val (.ref ms), .val .null, .val .null] [(.ref a)])) (fun t k => XS.aloadN X29.here hx rfl (hb hby d2_30) rfl rfl k) ?_
  refine own_via (S' := T29.setTop (mkF m 32 #[.val (.ref a), .val (.ref d), .val (.ref sc), .val (.ref ms), .val .null, .val .null] [(.ref ms), (.ref a)])) (fun t k => XS.aloadN X29.here hx rfl (hb hby d2_31) rfl rfl k) ?_
  obtain ⟨b34, T34, h34, kk34, t34, kb34, X34, e34, E34, hS34, hk34, hZ, hown, f34_0, f34_1, f34_2, f34_3, lta34, ltb34, R34q, hLit34, hsn34, st34⟩ := ldcCH X29 hx hZ hown (wd42 hw) (own_wS hw) e29 hS18 (by omega) hEL (List.mem_of_getElem? (i := 3) rfl) R31.1 (vs := [(.int (109 : Int32)), (.int (101 : Int32)), (.int (115 : Int32)), (.int (115 : Int32)), (.int (97 : Int32)), (.int (103 : Int32)), (.int (101 : Int32))]) (z := (7 : Int32)) ⟨by decide, rfl⟩ (by decide) rfl (g := (mkF m 32 #[.val (.ref a), .val (.ref d), .val (.ref sc), .val (.ref ms), .val .null, .val .null] [(.ref ms), (.ref a)])) rfl (hb hby d2_32) (n := 28) (by decide) (by decide) (by decide) (by decide)
  have sz35 : h29.size ≤ h34.size := E34.1
  have O36 : Old Z n0 h34 := O32.ext E34
  have R37 : CHr Z own_EL s.vm h0 T34.vm h34 := R31.trans R34q
  have K38 : Keep h0 h34 [a] := K33.ext E34
  have lt_b34 : h34.size > b34 := lta34
  have lt_t34 : h34.size > t34 := ltb34
  have cx39 : Exa Z h34 a "com/example/object_access_rules/objectaccessrules/Result" := ((Exa.wr W29 cx23).ext E34)
  have ne_a_b34 : a ≠ b34 := (hsn34 _ (Safe.exa hZ.alike cx39 (by decide) (by decide))).1
  have ne_a_t34 : a ≠ t34 := (hsn34 _ (Safe.exa hZ.alike cx39 (by decide) (by decide))).2
  have cx40 : Exa Z h34 d "com/example/object_access_rules/objectaccessrules/Decision" := ((Exa.wr W29 cx24).ext E34)
  have ne_d_b34 : d ≠ b34 := (hsn34 _ (Safe.exa hZ.alike cx40 (by decide) (by decide))).1
  have ne_d_t34 : d ≠ t34 := (hsn34 _ (Safe.exa hZ.alike cx40 (by decide) (by decide))).2
  have cx41 : Exa Z h34 sc "com/example/object_access_rules/objectaccessrules/StatusCode" := ((Exa.wr W29 cx25).ext E34)
  have ne_sc_b34 : sc ≠ b34 := (hsn34 _ (Safe.exa hZ.alike cx41 (by decide) (by decide))).1
  have ne_sc_t34 : sc ≠ t34 := (hsn34 _ (Safe.exa hZ.alike cx41 (by decide) (by decide))).2
  refine own_via (S' := T34.setTop (mkF m 34 #[.val (.ref a), .val (.ref d), .val (.ref sc), .val (.ref ms), .val .null, .val .null] [(.ref b34), (.ref ms), (.ref a)])) st34 ?_
  obtain ⟨_, _, ⟨T42, Lp42, kp42, np42⟩, -, X42, ⟨Lc42, hQ42, l42, y42, z42⟩, st42⟩ := Jvm.LawKit.callS X34 hx (y := mt0) hown (mvT hZ (wd29 hw)) (mvT hZ (wd30 hw)) (mvT hZ (wd31 hw)) (mvT hZ (wd32 hw)) (by decide) (backOf (W := 1) (own_rnn l Z a0 hw [] ms b34 h34 n0 O36) hZ (wd32 hw) (wd31 hw) (by decide) (by decide)) (g := (mkF m 34 #[.val (.ref a), .val (.ref d), .val (.ref sc), .val (.ref ms), .val .null, .val .null] [(.ref b34), (.ref ms), (.ref a)])) rfl (by rw [hml]; rfl) (argsL := [(.ref ms), (.ref b34)]) (rest := [(.ref a)]) (lenOf pd__Ljava_lang_Object_Ljava_lang_String__Ljava_lang_Object__5105 rfl) rfl (by show 2 * 0 + _ ≤ _; exact Nat.le_of_eq rfl) (hb hby d2_34) (fun _ _ => ⟨rfl, e34, (by decide : 6 + 0 ≤ _), (by decide : 96 + 0 ≤ _)⟩)
  dsimp only [Pt.U, Pt.locs, Pt.cells, Pt.slots] at X42 l42 y42 z42 st42 hQ42
  subst Lp42 kp42 np42
  obtain ⟨rfl, rfl, e42⟩ := hQ42
  try rw [List.append_nil] at X42
  refine own_via (S' := T42.setTop (mkF m 37 #[.val (.ref a), .val (.ref d), .val (.ref sc), .val (.ref ms), .val .null, .val .null] [(.ref ms), (.ref a)])) st42 ?_
  have cx43 : Exa Z h34 ms "java/lang/String" := ((Exa.wr W29 ((Exa.wr W13 (f0_E_ms.ext E2)).ext E18)).ext E34)
  obtain ⟨T44, X44, e44, st44⟩ := castY X42 hx hZ hown (wd43 hw) e42 (Ins.self cx43) (g := (mkF m 37 #[.val (.ref a), .val (.ref d), .val (.ref sc), .val (.ref ms), .val .null, .val .null] [(.ref ms), (.ref a)])) rfl rfl (hb hby d2_37)
  refine own_via (S' := T44.setTop (mkF m 40 #[.val (.ref a), .val (.ref d), .val (.ref sc), .val (.ref ms), .val .null, .val .null] [(.ref ms), (.ref a)])) st44 ?_
  have cx45 : Fld Z h34 a "com/example/object_access_rules/objectaccessrules/Result" "message" "Ljava/lang/String;" .null := ((Fld.other W29 ((Fld.other W13 (f0_F_a_message.ext E2) (Or.inr (slot_ne (Or.inr (wd46 hw)) (Or.inr (wd36 hw)) (by decide) (t := (.object "java/lang/String")) (t' := (.object "com/example/object_access_rules/objectaccessrules/Decision")) (by decide) (by decide)))).ext E18) (Or.inr (slot_ne (Or.inr (wd46 hw)) (Or.inr (wd41 hw)) (by decide) (t := (.object "java/lang/String")) (t' := (.object "com/example/object_access_rules/objectaccessrules/StatusCode")) (by decide) (by decide)))).ext E34)
  obtain ⟨T46, h46, X46, e46, W46, st46⟩ := putF X44 hx hZ hown (host := "") (Or.inl (wd45 hw)) Via.refl e44 cx45 cx39 (Or.inr ⟨(wd46 hw), rfl, hnm⟩) (wd17 hw) (ty := (.object "java/lang/String")) (by decide) rfl rfl (g := (mkF m 40 #[.val (.ref a), .val (.ref d), .val (.ref sc), .val (.ref ms), .val .null, .val .null] [(.ref ms), (.ref a)])) rfl rfl (hb hby d2_40)
  have sf46 : Safe Z own_EL T34.vm h34 a := (Safe.exa hZ.alike cx39 (by decide) (by decide))
  have sz47 : h34.size ≤ h46.size := Nat.le_of_eq W46.size.symm
  have R48 : CHr Z own_EL s.vm h0 T34.vm h46 := R37.trans (CHr.wr W46 sf46 R37.1)
  have O49 : Old Z n0 h46 := O36.wr W46 (by omega : n0 ≤ a)
  have N46 := Fr.snoc X46 N29 (by omega : n0 ≤ a)
  have K50 : Keep h0 h46 [a] := K38.wr W46 (Or.inl (List.mem_of_getElem? (i := 0) rfl))
  have Fw46 : Fld Z h46 a "com/example/object_access_rules/objectaccessrules/Result" "message" "Ljava/lang/String;" (.ref ms) := Fld.same W46 cx45
  refine own_via (S' := T46.setTop (mkF m 43 #[.val (.ref a), .val (.ref d), .val (.ref sc), .val (.ref ms), .val .null, .val .null] [])) st46 ?_
  refine own_via (S' := T46.setTop (mkF m 44 #[.val (.ref a), .val (.ref d), .val (.ref sc), .val (.ref ms), .val .null, .val .null] [(.ref d)])) (fun t k => XS.aloadN X46.here hx rfl (hb hby d2_43) rfl rfl k) ?_
  have cx51 : Sta Z h46 "com/example/object_access_rules/objectaccessrules/Decision" "INDETERMINATE" "Lcom/example/object_access_rules/objectaccessrules/Decision;" (.ref wI) := zf_S_com_example_object_access_rules_objectaccessrules_Decision_INDETERMINATE.ext O49.2
  obtain ⟨T52, X52, e52, st52⟩ := getS2 X46 hx hZ hown (host := "") (Or.inl (wd47 hw)) Via.refl e46 cx51 (g := (mkF m 44 #[.val (.ref a), .val (.ref d), .val (.ref sc), .val (.ref ms), .val .null, .val .null] [(.ref d)])) rfl (hb hby d2_44)
  refine own_via (S' := T52.setTop (mkF m 47 #[.val (.ref a), .val (.ref d), .val (.ref sc), .val (.ref ms), .val .null, .val .null] [(.ref wI), (.ref d)])) st52 ?_
  by_cases hc47_53 : d = wI
  · -- yes
    refine own_via (S' := T52.setTop (mkF m 50 #[.val (.ref a), .val (.ref d), .val (.ref sc), .val (.ref ms), .val .null, .val .null] [])) (fun t k => Jvm.RoadKit.acmp (g := (mkF m 47 #[.val (.ref a), .val (.ref d), .val (.ref sc), .val (.ref ms), .val .null, .val .null] [(.ref wI), (.ref d)])) X52 hx rfl rfl rfl (pc0 := 47) (pc' := 50) (same := true) rfl (hb hby d2_47) rfl (decide_eq_true (congrArg Value.ref hc47_53)) (by decide) (by decide) k) ?_
    refine own_via (S' := T52.setTop (mkF m 51 #[.val (.ref a), .val (.ref d), .val (.ref sc), .val (.ref ms), .val .null, .val .null] [(.int (1 : Int32))])) (fun t k => XS.iconst X52.here hx rfl (hb hby d2_50) k) ?_
    refine own_via (S' := T52.setTop (mkF m 55 #[.val (.ref a), .val (.ref d), .val (.ref sc), .val (.ref ms), .val .null, .val .null] [(.int (1 : Int32))])) (fun t k => XS.goto X52.here hx rfl (pc0 := 51) (pc' := 55) rfl (hb hby d2_51) (by decide) (by decide) k) ?_
    refine own_via (S' := T52.setTop (mkF m 56 #[.val (.ref a), .val (.ref d), .val (.ref sc), .val (.ref ms), .val .null, .val .null] [(.ref sc), (.int (1 : Int32))])) (fun t k => XS.aloadN X52.here hx rfl (hb hby d2_55) rfl rfl k) ?_
    have cx54 : Sta Z h46 "com/example/object_access_rules/objectaccessrules/StatusCode" "OK" "Lcom/example/object_access_rules/objectaccessrules/StatusCode;" (.ref wO) := zf_S_com_example_object_access_rules_objectaccessrules_StatusCode_OK.ext O49.2
    obtain ⟨T55, X55, e55, st55⟩ := getS2 X52 hx hZ hown (host := "") (Or.inl (wd48 hw)) Via.refl e52 cx54 (g := (mkF m 56 #[.val (.ref a), .val (.ref d), .val (.ref sc), .val (.ref ms), .val .null, .val .null] [(.ref sc), (.int (1 : Int32))])) rfl (hb hby d2_56)
    refine own_via (S' := T55.setTop (mkF m 59 #[.val (.ref a), .val (.ref d), .val (.ref sc), .val (.ref ms), .val .null, .val .null] [(.ref wO), (.ref sc), (.int (1 : Int32))])) st55 ?_
    have hc59_56 : ¬ (sc = wO) := by rcases hcons with q | q; exact q.2; exact absurd hc47_53 q.1
    refine own_via (S' := T55.setTop (mkF m 66 #[.val (.ref a), .val (.ref d), .val (.ref sc), .val (.ref ms), .val .null, .val .null] [(.int (1 : Int32))])) (fun t k => Jvm.RoadKit.acmp (g := (mkF m 59 #[.val (.ref a), .val (.ref d), .val (.ref sc), .val (.ref ms), .val .null, .val .null] [(.ref wO), (.ref sc), (.int (1 : Int32))])) X55 hx rfl rfl rfl (pc0 := 59) (pc' := 66) (same := false) rfl (hb hby d2_59) rfl (decide_eq_false fun q => hc59_56 (Value.ref.inj q)) (by decide) (by decide) k) ?_
    refine own_via (S' := T55.setTop (mkF m 67 #[.val (.ref a), .val (.ref d), .val (.ref sc), .val (.ref ms), .val .null, .val .null] [(.int (0 : Int32)), (.int (1 : Int32))])) (fun t k => XS.iconst X55.here hx rfl (hb hby d2_66) k) ?_
    refine own_via (S' := T55.setTop (mkF m 91 #[.val (.ref a), .val (.ref d), .val (.ref sc), .val (.ref ms), .val .null, .val .null] [])) (fun t k => XS.icmpYes X55.here hx rfl (pc0 := 67) (pc' := 91) rfl (hb hby d2_67) rfl (feq (by decide : ¬ ((1 : Int32) = (0 : Int32)))).2 (by decide) (by decide) k) ?_
    refine own_via (S' := T55.setTop (mkF m 92 #[.val (.ref a), .val (.ref d), .val (.ref sc), .val (.ref ms), .val .null, .val .null] [(.ref d)])) (fun t k => XS.aloadN X55.here hx rfl (hb hby d2_91) rfl rfl k) ?_
    obtain ⟨T57, X57, e57, st57⟩ := getS2 X55 hx hZ hown (host := "") (Or.inl (wd47 hw)) Via.refl e55 cx51 (g := (mkF m 92 #[.val (.ref a), .val (.ref d), .val (.ref sc), .val (.ref ms), .val .null, .val .null] [(.ref d)])) rfl (hb hby d2_92)
    refine own_via (S' := T57.setTop (mkF m 95 #[.val (.ref a), .val (.ref d), .val (.ref sc), .val (.ref ms), .val .null, .val .null] [(.ref wI), (.ref d)])) st57 ?_
    refine own_via (S' := T57.setTop (mkF m 123 #[.val (.ref a), .val (.ref d), .val (.ref sc), .val (.ref ms), .val .null, .val .null] [])) (fun t k => Jvm.RoadKit.acmp (g := (mkF m 95 #[.val (.ref a), .val (.ref d), .val (.ref sc), .val (.ref ms), .val .null, .val .null] [(.ref wI), (.ref d)])) X57 hx rfl rfl rfl (pc0 := 95) (pc' := 123) (same := true) rfl (hb hby d2_95) rfl (decide_eq_true (congrArg Value.ref hc47_53)) (by decide) (by decide) k) ?_
    refine own_via (S' := T57.setTop (mkF m 124 #[.val (.ref a), .val (.ref d), .val (.ref sc), .val (.ref ms), .val .null, .val .null] [(.ref a)])) (fun t k => XS.aloadN X57.here hx rfl (hb hby d2_123) rfl rfl k) ?_
    refine own_via (S' := T57.setTop (mkF m 126 #[.val (.ref a), .val (.ref d), .val (.ref sc), .val (.ref ms), .val .null, .val .null] [.null, (.ref a)])) (fun t k => XS.aload X57.here hx rfl (hb hby d2_124) rfl rfl k) ?_
    have cx58 : Exa Z h46 a "com/example/object_access_rules/objectaccessrules/Result" := (Exa.wr W46 cx39)
    have cx59 : Fld Z h46 a "com/example/object_access_rules/objectaccessrules/Result" "step" "Ljava/lang/String;" .null := (Fld.other W46 ((Fld.other W29 ((Fld.other W13 (f0_F_a_step.ext E2) (Or.inr (slot_ne (Or.inr (wd56 hw)) (Or.inr (wd36 hw)) (by decide) (t := (.object "java/lang/String")) (t' := (.object "com/example/object_access_rules/objectaccessrules/Decision")) (by decide) (by decide)))).ext E18) (Or.inr (slot_ne (Or.inr (wd56 hw)) (Or.inr (wd41 hw)) (by decide) (t := (.object "java/lang/String")) (t' := (.object "com/example/object_access_rules/objectaccessrules/StatusCode")) (by decide) (by decide)))).ext E34) (Or.inr (slot_ne (Or.inr (wd56 hw)) (Or.inr (wd46 hw)) (by decide) (t := (.object "java/lang/String")) (t' := (.object "java/lang/String")) (by decide) (by decide))))
    obtain ⟨T60, h60, X60, e60, W60, st60⟩ := putF X57 hx hZ hown (host := "") (Or.inl (wd55 hw)) Via.refl e57 cx59 cx58 (Or.inr ⟨(wd56 hw), rfl, hnm⟩) (wd17 hw) (ty := (.object "java/lang/String")) (by decide) rfl rfl (g := (mkF m 126 #[.val (.ref a), .val (.ref d), .val (.ref sc), .val (.ref ms), .val .null, .val .null] [.null, (.ref a)])) rfl rfl (hb hby d2_126)
    have sf60 : Safe Z own_EL T34.vm h46 a := (Safe.exa hZ.alike cx58 (by decide) (by decide))
    have sz61 : h46.size ≤ h60.size := Nat.le_of_eq W60.size.symm
    have R62 : CHr Z own_EL s.vm h0 T34.vm h60 := R48.trans (CHr.wr W60 sf60 R48.1)
    have O63 : Old Z n0 h60 := O49.wr W60 (by omega : n0 ≤ a)
    have N60 := Fr.snoc X60 N46 (by omega : n0 ≤ a)
    have K64 : Keep h0 h60 [a] := K50.wr W60 (Or.inl (List.mem_of_getElem? (i := 0) rfl))
    have Fw60 : Fld Z h60 a "com/example/object_access_rules/objectaccessrules/Result" "step" "Ljava/lang/String;" .null := Fld.same W60 cx59
    refine own_via (S' := T60.setTop (mkF m 129 #[.val (.ref a), .val (.ref d), .val (.ref sc), .val (.ref ms), .val .null, .val .null] [])) st60 ?_
    refine own_via (S' := T60.setTop (mkF m 130 #[.val (.ref a), .val (.ref d), .val (.ref sc), .val (.ref ms), .val .null, .val .null] [(.ref a)])) (fun t k => XS.aloadN X60.here hx rfl (hb hby d2_129) rfl rfl k) ?_
    refine own_via (S' := T60.setTop (mkF m 132 #[.val (.ref a), .val (.ref d), .val (.ref sc), .val (.ref ms), .val .null, .val .null] [.null, (.ref a)])) (fun t k => XS.aload X60.here hx rfl (hb hby d2_130) rfl rfl k) ?_
    have cx65 : Exa Z h60 a "com/example/object_access_rules/objectaccessrules/Result" := (Exa.wr W60 cx58)
    have cx66 : Fld Z h60 a "com/example/object_access_rules/objectaccessrules/Result" "below" "Lcom/example/object_access_rules/objectaccessrules/Result;" .null := (Fld.other W60 (Fld.other W46 ((Fld.other W29 ((Fld.other W13 (f0_F_a_below.ext E2) (Or.inr (slot_ne (Or.inr (wd58 hw)) (Or.inr (wd36 hw)) (by decide) (t := (.object "com/example/object_access_rules/objectaccessrules/Result")) (t' := (.object "com/example/object_access_rules/objectaccessrules/Decision")) (by decide) (by decide)))).ext E18) (Or.inr (slot_ne (Or.inr (wd58 hw)) (Or.inr (wd41 hw)) (by decide) (t := (.object "com/example/object_access_rules/objectaccessrules/Result")) (t' := (.object "com/example/object_access_rules/objectaccessrules/StatusCode")) (by decide) (by decide)))).ext E34) (Or.inr (slot_ne (Or.inr (wd58 hw)) (Or.inr (wd46 hw)) (by decide) (t := (.object "com/example/object_access_rules/objectaccessrules/Result")) (t' := (.object "java/lang/String")) (by decide) (by decide)))) (Or.inr (slot_ne (Or.inr (wd58 hw)) (Or.inr (wd56 hw)) (by decide) (t := (.object "com/example/object_access_rules/objectaccessrules/Result")) (t' := (.object "java/lang/String")) (by decide) (by decide))))
    obtain ⟨T67, h67, X67, e67, W67, st67⟩ := putF X60 hx hZ hown (host := "") (Or.inl (wd57 hw)) Via.refl e60 cx66 cx65 (Or.inr ⟨(wd58 hw), rfl, hnm⟩) (wd17 hw) (ty := (.object "com/example/object_access_rules/objectaccessrules/Result")) (by decide) rfl rfl (g := (mkF m 132 #[.val (.ref a), .val (.ref d), .val (.ref sc), .val (.ref ms), .val .null, .val .null] [.null, (.ref a)])) rfl rfl (hb hby d2_132)
    have sf67 : Safe Z own_EL T34.vm h60 a := (Safe.exa hZ.alike cx65 (by decide) (by decide))
    have sz68 : h60.size ≤ h67.size := Nat.le_of_eq W67.size.symm
    have R69 : CHr Z own_EL s.vm h0 T34.vm h67 := R62.trans (CHr.wr W67 sf67 R62.1)
    have O70 : Old Z n0 h67 := O63.wr W67 (by omega : n0 ≤ a)
    have N67 := Fr.snoc X67 N60 (by omega : n0 ≤ a)
    have K71 : Keep h0 h67 [a] := K64.wr W67 (Or.inl (List.mem_of_getElem? (i := 0) rfl))
    have Fw67 : Fld Z h67 a "com/example/object_access_rules/objectaccessrules/Result" "below" "Lcom/example/object_access_rules/objectaccessrules/Result;" .null := Fld.same W67 cx66
    refine own_via (S' := T67.setTop (mkF m 135 #[.val (.ref a), .val (.ref d), .val (.ref sc), .val (.ref ms), .val .null, .val .null] [])) st67 ?_
    have cx72 : Fld Z h67 a "com/example/object_access_rules/objectaccessrules/Result" "decision" "Lcom/example/object_access_rules/objectaccessrules/Decision;" (.ref d) := (Fld.other W67 (Fld.other W60 (Fld.other W46 ((Fld.other W29 (Fw13.ext E18) (Or.inr (slot_ne (Or.inr (wd36 hw)) (Or.inr (wd41 hw)) (by decide) (t := (.object "com/example/object_access_rules/objectaccessrules/Decision")) (t' := (.object "com/example/object_access_rules/objectaccessrules/StatusCode")) (by decide) (by decide)))).ext E34) (Or.inr (slot_ne (Or.inr (wd36 hw)) (Or.inr (wd46 hw)) (by decide) (t := (.object "com/example/object_access_rules/objectaccessrules/Decision")) (t' := (.object "java/lang/String")) (by decide) (by decide)))) (Or.inr (slot_ne (Or.inr (wd36 hw)) (Or.inr (wd56 hw)) (by decide) (t := (.object "com/example/object_access_rules/objectaccessrules/Decision")) (t' := (.object "java/lang/String")) (by decide) (by decide)))) (Or.inr (slot_ne (Or.inr (wd36 hw)) (Or.inr (wd58 hw)) (by decide) (t := (.object "com/example/object_access_rules/objectaccessrules/Decision")) (t' := (.object "com/example/object_access_rules/objectaccessrules/Result")) (by decide) (by decide))))
    have cx73 : Fld Z h67 a "com/example/object_access_rules/objectaccessrules/Result" "status" "Lcom/example/object_access_rules/objectaccessrules/StatusCode;" (.ref sc) := (Fld.other W67 (Fld.other W60 (Fld.other W46 (Fw29.ext E34) (Or.inr (slot_ne (Or.inr (wd41 hw)) (Or.inr (wd46 hw)) (by decide) (t := (.object "com/example/object_access_rules/objectaccessrules/StatusCode")) (t' := (.object "java/lang/String")) (by decide) (by decide)))) (Or.inr (slot_ne (Or.inr (wd41 hw)) (Or.inr (wd56 hw)) (by decide) (t := (.object "com/example/object_access_rules/objectaccessrules/StatusCode")) (t' := (.object "java/lang/String")) (by decide) (by decide)))) (Or.inr (slot_ne (Or.inr (wd41 hw)) (Or.inr (wd58 hw)) (by decide) (t := (.object "com/example/object_access_rules/objectaccessrules/StatusCode")) (t' := (.object "com/example/object_access_rules/objectaccessrules/Result")) (by decide) (by decide))))
    have cx74 : Fld Z h67 a "com/example/object_access_rules/objectaccessrules/Result" "message" "Ljava/lang/String;" (.ref ms) := (Fld.other W67 (Fld.other W60 Fw46 (Or.inr (slot_ne (Or.inr (wd46 hw)) (Or.inr (wd56 hw)) (by decide) (t := (.object "java/lang/String")) (t' := (.object "java/lang/String")) (by decide) (by decide)))) (Or.inr (slot_ne (Or.inr (wd46 hw)) (Or.inr (wd58 hw)) (by decide) (t := (.object "java/lang/String")) (t' := (.object "com/example/object_access_rules/objectaccessrules/Result")) (by decide) (by decide))))
    have cx75 : Fld Z h67 a "com/example/object_access_rules/objectaccessrules/Result" "step" "Ljava/lang/String;" .null := (Fld.other W67 Fw60 (Or.inr (slot_ne (Or.inr (wd56 hw)) (Or.inr (wd58 hw)) (by decide) (t := (.object "java/lang/String")) (t' := (.object "com/example/object_access_rules/objectaccessrules/Result")) (by decide) (by decide))))
    have RTR69 : CHr Z own_EL s.vm h0 T67.vm h67 := R69.trans (CHv.at X67 hZ hEL R69.1)
    have RXR69 : CHr Z own_EL s.vm s.heap T67.vm T67.heap := by rw [hh, e67]; exact RTR69
    refine own_retW (Q := Q_own_r5N Z a d sc ms tm km zl vsm wI wO h0 n0) (C := ({ frames := 1, cells := 6, slots := 96, locals := 14 } : Room).cells) (N := ({ frames := 1, cells := 6, slots := 96, locals := 14 } : Room).slots) X67 hS34 (by rw [e67]; omega) (v := none) (fun _ => rfl) Bd.notSynchronized ?_ RXR69 (by decide) (by decide) (fun fs hr => X67.returnOut hx Bd.returns (hb hby d2_135) hr)
    show Q_own_r5N Z a d sc ms tm km zl vsm wI wO h0 n0 _ T67.vm T67.heap _
    rw [e67]
    exact ⟨rfl, N67, K71, cx72, cx73, cx74, cx75, Fw67⟩
  · -- no
    refine own_via (S' := T52.setTop (mkF m 54 #[.val (.ref a), .val (.ref d), .val (.ref sc), .val (.ref ms), .val .null, .val .null] [])) (fun t k => Jvm.RoadKit.acmp (g := (mkF m 47 #[.val (.ref a), .val (.ref d), .val (.ref sc), .val (.ref ms), .val .null, .val .null] [(.ref wI), (.ref d)])) X52 hx rfl rfl rfl (pc0 := 47) (pc' := 54) (same := false) rfl (hb hby d2_47) rfl (decide_eq_false fun q => hc47_53 (Value.ref.inj q)) (by decide) (by decide) k) ?_
    refine own_via (S' := T52.setTop (mkF m 55 #[.val (.ref a), .val (.ref d), .val (.ref sc), .val (.ref ms), .val .null, .val .null] [(.int (0 : Int32))])) (fun t k => XS.iconst X52.here hx rfl (hb hby d2_54) k) ?_
    refine own_via (S' := T52.setTop (mkF m 56 #[.val (.ref a), .val (.ref d), .val (.ref sc), .val (.ref ms), .val .null, .val .null] [(.ref sc), (.int (0 : Int32))])) (fun t k => XS.aloadN X52.here hx rfl (hb hby d2_55) rfl rfl k) ?_
    have cx76 : Sta Z h46 "com/example/object_access_rules/objectaccessrules/StatusCode" "OK" "Lcom/example/object_access_rules/objectaccessrules/StatusCode;" (.ref wO) := zf_S_com_example_object_access_rules_objectaccessrules_StatusCode_OK.ext O49.2
    obtain ⟨T77, X77, e77, st77⟩ := getS2 X52 hx hZ hown (host := "") (Or.inl (wd48 hw)) Via.refl e52 cx76 (g := (mkF m 56 #[.val (.ref a), .val (.ref d), .val (.ref sc), .val (.ref ms), .val .null, .val .null] [(.ref sc), (.int (0 : Int32))])) rfl (hb hby d2_56)
    refine own_via (S' := T77.setTop (mkF m 59 #[.val (.ref a), .val (.ref d), .val (.ref sc), .val (.ref ms), .val .null, .val .null] [(.ref wO), (.ref sc), (.int (0 : Int32))])) st77 ?_
    have hc59_78 : sc = wO := by rcases hcons with q | q; exact absurd q.1 hc47_53; exact q.2.1
    refine own_via (S' := T77.setTop (mkF m 62 #[.val (.ref a), .val (.ref d), .val (.ref sc), .val (.ref ms), .val .null, .val .null] [(.int (0 : Int32))])) (fun t k => Jvm.RoadKit.acmp (g := (mkF m 59 #[.val (.ref a), .val (.ref d), .val (.ref sc), .val (.ref ms), .val .null, .val .null] [(.ref wO), (.ref sc), (.int (0 : Int32))])) X77 hx rfl rfl rfl (pc0 := 59) (pc' := 62) (same := true) rfl (hb hby d2_59) rfl (decide_eq_true (congrArg Value.ref hc59_78)) (by decide) (by decide) k) ?_
    refine own_via (S' := T77.setTop (mkF m 63 #[.val (.ref a), .val (.ref d), .val (.ref sc), .val (.ref ms), .val .null, .val .null] [(.int (1 : Int32)), (.int (0 : Int32))])) (fun t k => XS.iconst X77.here hx rfl (hb hby d2_62) k) ?_
    refine own_via (S' := T77.setTop (mkF m 67 #[.val (.ref a), .val (.ref d), .val (.ref sc), .val (.ref ms), .val .null, .val .null] [(.int (1 : Int32)), (.int (0 : Int32))])) (fun t k => XS.goto X77.here hx rfl (pc0 := 63) (pc' := 67) rfl (hb hby d2_63) (by decide) (by decide) k) ?_
    refine own_via (S' := T77.setTop (mkF m 91 #[.val (.ref a), .val (.ref d), .val (.ref sc), .val (.ref ms), .val .null, .val .null] [])) (fun t k => XS.icmpYes X77.here hx rfl (pc0 := 67) (pc' := 91) rfl (hb hby d2_67) rfl (feq (by decide : ¬ ((0 : Int32) = (1 : Int32)))).2 (by decide) (by decide) k) ?_
    refine own_via (S' := T77.setTop (mkF m 92 #[.val (.ref a), .val (.ref d), .val (.ref sc), .val (.ref ms), .val .null, .val .null] [(.ref d)])) (fun t k => XS.aloadN X77.here hx rfl (hb hby d2_91) rfl rfl k) ?_
    obtain ⟨T79, X79, e79, st79⟩ := getS2 X77 hx hZ hown (host := "") (Or.inl (wd47 hw)) Via.refl e77 cx51 (g := (mkF m 92 #[.val (.ref a), .val (.ref d), .val (.ref sc), .val (.ref ms), .val .null, .val .null] [(.ref d)])) rfl (hb hby d2_92)
    refine own_via (S' := T79.setTop (mkF m 95 #[.val (.ref a), .val (.ref d), .val (.ref sc), .val (.ref ms), .val .null, .val .null] [(.ref wI), (.ref d)])) st79 ?_
    refine own_via (S' := T79.setTop (mkF m 98 #[.val (.ref a), .val (.ref d), .val (.ref sc), .val (.ref ms), .val .null, .val .null] [])) (fun t k => Jvm.RoadKit.acmp (g := (mkF m 95 #[.val (.ref a), .val (.ref d), .val (.ref sc), .val (.ref ms), .val .null, .val .null] [(.ref wI), (.ref d)])) X79 hx rfl rfl rfl (pc0 := 95) (pc' := 98) (same := false) rfl (hb hby d2_95) rfl (decide_eq_false fun q => hc47_53 (Value.ref.inj q)) (by decide) (by decide) k) ?_
    refine own_via (S' := T79.setTop (mkF m 99 #[.val (.ref a), .val (.ref d), .val (.ref sc), .val (.ref ms), .val .null, .val .null] [(.ref ms)])) (fun t k => XS.aloadN X79.here hx rfl (hb hby d2_98) rfl rfl k) ?_
    have hzl : zl = (0 : Int32) := by rcases hcons with q | q; exact absurd q.1 hc47_53; exact q.2.2
    have cx81 : Fld Z h46 ms "java/lang/String" "value" "[B" (.ref tm) := (Fld.other W46 ((Fld.other W29 ((Fld.other W13 (f0_F_ms_value.ext E2) (Or.inl (Ne.symm ne_a_ms))).ext E18) (Or.inl (Ne.symm ne_a_ms))).ext E34) (Or.inl (Ne.symm ne_a_ms)))
    have cx82 : Arv Z h46 tm km .byte zl vsm (.int (0 : Int32)) := ((((((f0_A_tm.ext E2).other W13 (Ne.symm ne_a_tm)).ext E18).other W29 (Ne.symm ne_a_tm)).ext E34).other W46 (Ne.symm ne_a_tm))
    have cx83 : Exa Z h46 ms "java/lang/String" := (Exa.wr W46 cx43)
    obtain ⟨cq80, kq80, q80a, q80b, q80c⟩ := isOf hZ e79 cx83
    obtain ⟨_, _, ⟨T80, Lp80, kp80, np80⟩, -, X80, ⟨Lc80, hQ80, l80, y80, z80⟩, st80⟩ := X79.virtualBack hx (y := mt1) (z := mt1) hown (mvT hZ (wd49 hw)) (mvT hZ (wd50 hw)) (notFace_of_selects (args := #[]) (mvT hZ (wd52 hw))) (mvT hZ (wd52 hw)) (mvT hZ (wd51 hw)) (by decide) (backOf (W := 0) (own_empty l Z a0 hw [] ms tm km zl vsm h46 n0 O49 cx81 cx82) hZ (wd53 hw) (wd9 hw) (by decide) (by decide)) q80a q80c (g := (mkF m 99 #[.val (.ref a), .val (.ref d), .val (.ref sc), .val (.ref ms), .val .null, .val .null] [(.ref ms)])) rfl (by rw [hml]; rfl) (Steps.refl _) (argsL := []) (rest := []) (lenOf pd___Z_171 rfl) rfl (by show 2 * 0 + _ ≤ _; exact Nat.le_of_eq rfl) (hb hby d2_99) (fun _ _ => ⟨rfl, e79, (by decide : 6 + 0 ≤ _), (by decide : 96 + 0 ≤ _)⟩)
    dsimp only [Pt.U, Pt.locs, Pt.cells, Pt.slots] at X80 l80 y80 z80 st80 hQ80
    subst Lp80 kp80 np80
    obtain ⟨z80, rfl, rfl, e80, hz80_0⟩ := hQ80
    try rw [List.append_nil] at X80
    refine own_tr (S' := T80.setTop (mkF m 102 #[.val (.ref a), .val (.ref d), .val (.ref sc), .val (.ref ms), .val .null, .val .null] [(.int z80)])) st80 ?_
    obtain rfl : z80 = (1 : Int32) := hz80_0.trans (if_pos hzl)
    refine own_via (S' := T80.setTop (mkF m 123 #[.val (.ref a), .val (.ref d), .val (.ref sc), .val (.ref ms), .val .null, .val .null] [])) (fun t k => XS.ifYes X80.here hx rfl (pc0 := 102) (pc' := 123) rfl (hb hby d2_102) rfl ((if0 _ _).trans (feq (by decide : ¬ ((1 : Int32) = (0 : Int32)))).2) (by decide) (by decide) k) ?_
    refine own_via (S' := T80.setTop (mkF m 124 #[.val (.ref a), .val (.ref d), .val (.ref sc), .val (.ref ms), .val .null, .val .null] [(.ref a)])) (fun t k => XS.aloadN X80.here hx rfl (hb hby d2_123) rfl rfl k) ?_
    refine own_via (S' := T80.setTop (mkF m 126 #[.val (.ref a), .val (.ref d), .val (.ref sc), .val (.ref ms), .val .null, .val .null] [.null, (.ref a)])) (fun t k => XS.aload X80.here hx rfl (hb hby d2_124) rfl rfl k) ?_
    have cx85 : Exa Z h46 a "com/example/object_access_rules/objectaccessrules/Result" := (Exa.wr W46 cx39)
    have cx86 : Fld Z h46 a "com/example/object_access_rules/objectaccessrules/Result" "step" "Ljava/lang/String;" .null := (Fld.other W46 ((Fld.other W29 ((Fld.other W13 (f0_F_a_step.ext E2) (Or.inr (slot_ne (Or.inr (wd56 hw)) (Or.inr (wd36 hw)) (by decide) (t := (.object "java/lang/String")) (t' := (.object "com/example/object_access_rules/objectaccessrules/Decision")) (by decide) (by decide)))).ext E18) (Or.inr (slot_ne (Or.inr (wd56 hw)) (Or.inr (wd41 hw)) (by decide) (t := (.object "java/lang/String")) (t' := (.object "com/example/object_access_rules/objectaccessrules/StatusCode")) (by decide) (by decide)))).ext E34) (Or.inr (slot_ne (Or.inr (wd56 hw)) (Or.inr (wd46 hw)) (by decide) (t := (.object "java/lang/String")) (t' := (.object "java/lang/String")) (by decide) (by decide))))
    obtain ⟨T87, h87, X87, e87, W87, st87⟩ := putF X80 hx hZ hown (host := "") (Or.inl (wd55 hw)) Via.refl e80 cx86 cx85 (Or.inr ⟨(wd56 hw), rfl, hnm⟩) (wd17 hw) (ty := (.object "java/lang/String")) (by decide) rfl rfl (g := (mkF m 126 #[.val (.ref a), .val (.ref d), .val (.ref sc), .val (.ref ms), .val .null, .val .null] [.null, (.ref a)])) rfl rfl (hb hby d2_126)
    have sf87 : Safe Z own_EL T34.vm h46 a := (Safe.exa hZ.alike cx85 (by decide) (by decide))
    have sz88 : h46.size ≤ h87.size := Nat.le_of_eq W87.size.symm
    have R89 : CHr Z own_EL s.vm h0 T34.vm h87 := R48.trans (CHr.wr W87 sf87 R48.1)
    have O90 : Old Z n0 h87 := O49.wr W87 (by omega : n0 ≤ a)
    have N87 := Fr.snoc X87 N46 (by omega : n0 ≤ a)
    have K91 : Keep h0 h87 [a] := K50.wr W87 (Or.inl (List.mem_of_getElem? (i := 0) rfl))
    have Fw87 : Fld Z h87 a "com/example/object_access_rules/objectaccessrules/Result" "step" "Ljava/lang/String;" .null := Fld.same W87 cx86
    refine own_via (S' := T87.setTop (mkF m 129 #[.val (.ref a), .val (.ref d), .val (.ref sc), .val (.ref ms), .val .null, .val .null] [])) st87 ?_
    refine own_via (S' := T87.setTop (mkF m 130 #[.val (.ref a), .val (.ref d), .val (.ref sc), .val (.ref ms), .val .null, .val .null] [(.ref a)])) (fun t k => XS.aloadN X87.here hx rfl (hb hby d2_129) rfl rfl k) ?_
    refine own_via (S' := T87.setTop (mkF m 132 #[.val (.ref a), .val (.ref d), .val (.ref sc), .val (.ref ms), .val .null, .val .null] [.null, (.ref a)])) (fun t k => XS.aload X87.here hx rfl (hb hby d2_130) rfl rfl k) ?_
    have cx92 : Exa Z h87 a "com/example/object_access_rules/objectaccessrules/Result" := (Exa.wr W87 cx85)
    have cx93 : Fld Z h87 a "com/example/object_access_rules/objectaccessrules/Result" "below" "Lcom/example/object_access_rules/objectaccessrules/Result;" .null := (Fld.other W87 (Fld.other W46 ((Fld.other W29 ((Fld.other W13 (f0_F_a_below.ext E2) (Or.inr (slot_ne (Or.inr (wd58 hw)) (Or.inr (wd36 hw)) (by decide) (t := (.object "com/example/object_access_rules/objectaccessrules/Result")) (t' := (.object "com/example/object_access_rules/objectaccessrules/Decision")) (by decide) (by decide)))).ext E18) (Or.inr (slot_ne (Or.inr (wd58 hw)) (Or.inr (wd41 hw)) (by decide) (t := (.object "com/example/object_access_rules/objectaccessrules/Result")) (t' := (.object "com/example/object_access_rules/objectaccessrules/StatusCode")) (by decide) (by decide)))).ext E34) (Or.inr (slot_ne (Or.inr (wd58 hw)) (Or.inr (wd46 hw)) (by decide) (t := (.object "com/example/object_access_rules/objectaccessrules/Result")) (t' := (.object "java/lang/String")) (by decide) (by decide)))) (Or.inr (slot_ne (Or.inr (wd58 hw)) (Or.inr (wd56 hw)) (by decide) (t := (.object "com/example/object_access_rules/objectaccessrules/Result")) (t' := (.object "java/lang/String")) (by decide) (by decide))))
    obtain ⟨T94, h94, X94, e94, W94, st94⟩ := putF X87 hx hZ hown (host := "") (Or.inl (wd57 hw)) Via.refl e87 cx93 cx92 (Or.inr ⟨(wd58 hw), rfl, hnm⟩) (wd17 hw) (ty := (.object "com/example/object_access_rules/objectaccessrules/Result")) (by decide) rfl rfl (g := (mkF m 132 #[.val (.ref a), .val (.ref d), .val (.ref sc), .val (.ref ms), .val .null, .val .null] [.null, (.ref a)])) rfl rfl (hb hby d2_132)
    have sf94 : Safe Z own_EL T34.vm h87 a := (Safe.exa hZ.alike cx92 (by decide) (by decide))
    have sz95 : h87.size ≤ h94.size := Nat.le_of_eq W94.size.symm
    have R96 : CHr Z own_EL s.vm h0 T34.vm h94 := R89.trans (CHr.wr W94 sf94 R89.1)
    have O97 : Old Z n0 h94 := O90.wr W94 (by omega : n0 ≤ a)
    have N94 := Fr.snoc X94 N87 (by omega : n0 ≤ a)
    have K98 : Keep h0 h94 [a] := K91.wr W94 (Or.inl (List.mem_of_getElem? (i := 0) rfl))
    have Fw94 : Fld Z h94 a "com/example/object_access_rules/objectaccessrules/Result" "below" "Lcom/example/object_access_rules/objectaccessrules/Result;" .null := Fld.same W94 cx93
    refine own_via (S' := T94.setTop (mkF m 135 #[.val (.ref a), .val (.ref d), .val (.ref sc), .val (.ref ms), .val .null, .val .null] [])) st94 ?_
    have cx99 : Fld Z h94 a "com/example/object_access_rules/objectaccessrules/Result" "decision" "Lcom/example/object_access_rules/objectaccessrules/Decision;" (.ref d) := (Fld.other W94 (Fld.other W87 (Fld.other W46 ((Fld.other W29 (Fw13.ext E18) (Or.inr (slot_ne (Or.inr (wd36 hw)) (Or.inr (wd41 hw)) (by decide) (t := (.object "com/example/object_access_rules/objectaccessrules/Decision")) (t' := (.object "com/example/object_access_rules/objectaccessrules/StatusCode")) (by decide) (by decide)))).ext E34) (Or.inr (slot_ne (Or.inr (wd36 hw)) (Or.inr (wd46 hw)) (by decide) (t := (.object "com/example/object_access_rules/objectaccessrules/Decision")) (t' := (.object "java/lang/String")) (by decide) (by decide)))) (Or.inr (slot_ne (Or.inr (wd36 hw)) (Or.inr (wd56 hw)) (by decide) (t := (.object "com/example/object_access_rules/objectaccessrules/Decision")) (t' := (.object "java/lang/String")) (by decide) (by decide)))) (Or.inr (slot_ne (Or.inr (wd36 hw)) (Or.inr (wd58 hw)) (by decide) (t := (.object "com/example/object_access_rules/objectaccessrules/Decision")) (t' := (.object "com/example/object_access_rules/objectaccessrules/Result")) (by decide) (by decide))))
    have cx100 : Fld Z h94 a "com/example/object_access_rules/objectaccessrules/Result" "status" "Lcom/example/object_access_rules/objectaccessrules/StatusCode;" (.ref sc) := (Fld.other W94 (Fld.other W87 (Fld.other W46 (Fw29.ext E34) (Or.inr (slot_ne (Or.inr (wd41 hw)) (Or.inr (wd46 hw)) (by decide) (t := (.object "com/example/object_access_rules/objectaccessrules/StatusCode")) (t' := (.object "java/lang/String")) (by decide) (by decide)))) (Or.inr (slot_ne (Or.inr (wd41 hw)) (Or.inr (wd56 hw)) (by decide) (t := (.object "com/example/object_access_rules/objectaccessrules/StatusCode")) (t' := (.object "java/lang/String")) (by decide) (by decide)))) (Or.inr (slot_ne (Or.inr (wd41 hw)) (Or.inr (wd58 hw)) (by decide) (t := (.object "com/example/object_access_rules/objectaccessrules/StatusCode")) (t' := (.object "com/example/object_access_rules/objectaccessrules/Result")) (by decide) (by decide))))
    have cx101 : Fld Z h94 a "com/example/object_access_rules/objectaccessrules/Result" "message" "Ljava/lang/String;" (.ref ms) := (Fld.other W94 (Fld.other W87 Fw46 (Or.inr (slot_ne (Or.inr (wd46 hw)) (Or.inr (wd56 hw)) (by decide) (t := (.object "java/lang/String")) (t' := (.object "java/lang/String")) (by decide) (by decide)))) (Or.inr (slot_ne (Or.inr (wd46 hw)) (Or.inr (wd58 hw)) (by decide) (t := (.object "java/lang/String")) (t' := (.object "com/example/object_access_rules/objectaccessrules/Result")) (by decide) (by decide))))
    have cx102 : Fld Z h94 a "com/example/object_access_rules/objectaccessrules/Result" "step" "Ljava/lang/String;" .null := (Fld.other W94 Fw87 (Or.inr (slot_ne (Or.inr (wd56 hw)) (Or.inr (wd58 hw)) (by decide) (t := (.object "java/lang/String")) (t' := (.object "com/example/object_access_rules/objectaccessrules/Result")) (by decide) (by decide))))
    have RTR96 : CHr Z own_EL s.vm h0 T94.vm h94 := R96.trans (CHv.at X94 hZ hEL R96.1)
    have RXR96 : CHr Z own_EL s.vm s.heap T94.vm T94.heap := by rw [hh, e94]; exact RTR96
    refine own_retW (Q := Q_own_r5N Z a d sc ms tm km zl vsm wI wO h0 n0) (C := ({ frames := 1, cells := 6, slots := 96, locals := 14 } : Room).cells) (N := ({ frames := 1, cells := 6, slots := 96, locals := 14 } : Room).slots) X94 hS34 (by rw [e94]; omega) (v := none) (fun _ => rfl) Bd.notSynchronized ?_ RXR96 (by decide) (by decide) (fun fs hr => X94.returnOut hx Bd.returns (hb hby d2_135) hr)
    show Q_own_r5N Z a d sc ms tm km zl vsm wI wO h0 n0 _ T94.vm T94.heap _
    rw [e94]
    exact ⟨rfl, N94, K98, cx99, cx100, cx101, cx102, Fw94⟩
def Q_own_r5R (Z : State) (a : Addr) (d : Addr) (sc : Addr) (ms : Addr) (sp : Addr) (bl : Addr) (tm : Addr) (km : ClassId) (zl : Int32) (vsm : List Value) (wI : Addr) (wO : Addr) (h0 : Heap) (n0 : Nat) (v : Option Value) (vm : Vm) (h : Heap) (L : List Loc) : Prop := v = none ∧ Fr n0 L ∧ Keep h0 h [a] ∧ Fld Z h a "com/example/object_access_rules/objectaccessrules/Result" "decision" "Lcom/example/object_access_rules/objectaccessrules/Decision;" (.ref d) ∧ Fld Z h a "com/example/object_access_rules/objectaccessrules/Result" "status" "Lcom/example/object_access_rules/objectaccessrules/StatusCode;" (.ref sc) ∧ Fld Z h a "com/example/object_access_rules/objectaccessrules/Result" "message" "Ljava/lang/String;" (.ref ms) ∧ Fld Z h a "com/example/object_access_rules/objectaccessrules/Result" "step" "Ljava/lang/String;" (.ref sp) ∧ Fld Z h a "com/example/object_access_rules/objectaccessrules/Result" "below" "Lcom/example/object_access_rules/objectaccessrules/Result;" (.ref bl)
set_option maxRecDepth 65536 in
set_option maxHeartbeats 40000000 in
theorem own_r5R (l : Launch) (Z : State) (a0 : Array Value) (hw : ∀ d ∈ tables_1, d.before a0 Z = true) (ws : List Jvm.Cond) (a : Addr) (d : Addr) (sc : Addr) (ms : Addr) (sp : Addr) (bl : Addr) (tm : Addr) (km : ClassId) (zl : Int32) (vsm : List Value) (wI : Addr) (wO : Addr) (h0 : Heap) (n0 : Nat) (O0 : Old Z n0 h0) (zf_S_com_example_object_access_rules_objectaccessrules_Decision_INDETERMINATE : Sta Z Z.heap "com/example/object_access_rules/objectaccessrules/Decision" "INDETERMINATE" "Lcom/example/object_access_rules/objectaccessrules/Decision;" (.ref wI)) (zf_S_com_example_object_access_rules_objectaccessrules_StatusCode_OK : Sta Z Z.heap "com/example/object_access_rules/objectaccessrules/StatusCode" "OK" "Lcom/example/object_access_rules/objectaccessrules/StatusCode;" (.ref wO)) (f0_E_a : Exa Z h0 a "com/example/object_access_rules/objectaccessrules/Result") (f0_F_a_decision : Fld Z h0 a "com/example/object_access_rules/objectaccessrules/Result" "decision" "Lcom/example/object_access_rules/objectaccessrules/Decision;" .null) (f0_F_a_status : Fld Z h0 a "com/example/object_access_rules/objectaccessrules/Result" "status" "Lcom/example/object_access_rules/objectaccessrules/StatusCode;" .null) (f0_F_a_message : Fld Z h0 a "com/example/object_access_rules/objectaccessrules/Result" "message" "Ljava/lang/String;" .null) (f0_F_a_step : Fld Z h0 a "com/example/object_access_rules/objectaccessrules/Result" "step" "Ljava/lang/String;" .null) (f0_F_a_below : Fld Z h0 a "com/example/object_access_rules/objectaccessrules/Result" "below" "Lcom/example/object_access_rules/objectaccessrules/Result;" .null) (f0_E_d : Exa Z h0 d "com/example/object_access_rules/objectaccessrules/Decision") (f0_E_sc : Exa Z h0 sc "com/example/object_access_rules/objectaccessrules/StatusCode") (f0_E_ms : Exa Z h0 ms "java/lang/String") (f0_F_ms_value : Fld Z h0 ms "java/lang/String" "value" "[B" (.ref tm)) (f0_A_tm : Arv Z h0 tm km .byte zl vsm (.int (0 : Int32))) (g_a : n0 ≤ a) (hcons : (d = wI ∧ ¬ (sc = wO)) ∨ (¬ (d = wI) ∧ sc = wO ∧ zl = (0 : Int32))) :
    MetFree l mt2 (head1 (Jvm.Cond.code mt2 prog_37_method_3_code 6 none :: ws) ({ frames := 1, cells := 6, slots := 96, locals := 14 } : Room)) (fun aq U => aq = #[(.ref a), (.ref d), (.ref sc), (.ref ms), (.ref sp), (.ref bl)] ∧ Z.Warmed39 U.vm ∧ U.heap = h0 ∧ CHv Z own_EL U.vm h0 ∧ ∀ x ∈ ([] : List Addr), Safe Z own_EL U.vm h0 x) (fun _ _ _ _ _ => True) (fun _ U o U' => ∃ v L, o = .returned v ∧ Q_own_r5R Z a d sc ms sp bl tm km zl vsm wI wO h0 n0 v U'.vm U'.heap L ∧ CHr Z own_EL U.vm U.heap U'.vm U'.heap ∧ ReturnedEndW U o U' L ({ frames := 1, cells := 6, slots := 96, locals := 14 } : Room).cells ({ frames := 1, cells := 6, slots := 96, locals := 14 } : Room).slots) := by
  refine MetFree.of_bodySF (plainFor_of_name pn_com_example_object_access_rules_objectaccessrules_Result) hisR ?_
  intro p e s m args below meth c s₁ Bd hml0 hP hK
  obtain ⟨rfl, hZ, hh, hCH, hSL⟩ := hP
  have hx := Bd.exec
  have hby := Bd.bytes
  have hml : c.maxLocals = 6 := hml0
  have hown : s.vm.findClass "com/example/object_access_rules/objectaccessrules/Result" = some m.cls := findClass_of_methodNamed Bd.named
  have hnm := (name_of_methodNamed Bd.named Bd.method).1
  have X0 : Stand p l e ({ frames := 1, cells := 6, slots := 96, locals := 14 } : Room) (s.setVm s.vm) m #[(.ref a), (.ref d), (.ref sc), (.ref ms), (.ref sp), (.ref bl)] below meth c s₁ [] 0 0 := Stand.of_body Bd
  have e0 : s₁.heap = h0 := by rw [← hh, Bd.state]; rfl
  have N0 := Fr.nil n0
  have zO := O0.1
  have zO2 := O0.2.1
  have fl_E_a : h0.size > a := f0_E_a.lt
  have fl_F_a_decision : h0.size > a := f0_F_a_decision.lt
  have fl_F_a_status : h0.size > a := f0_F_a_status.lt
  have fl_F_a_message : h0.size > a := f0_F_a_message.lt
  have fl_F_a_step : h0.size > a := f0_F_a_step.lt
  have fl_F_a_below : h0.size > a := f0_F_a_below.lt
  have fl_E_d : h0.size > d := f0_E_d.lt
  have fl_E_sc : h0.size > sc := f0_E_sc.lt
  have fl_E_ms : h0.size > ms := f0_E_ms.lt
  have fl_F_ms_value : h0.size > ms := f0_F_ms_value.lt
  have fl_A_tm : h0.size > tm := f0_A_tm.lt
  refine own_open (own_via (S' := s₁.setTop (mkF m 0 #[.val (.ref a), .val (.ref d), .val (.ref sc), .val (.ref ms), .val (.ref sp), .val (.ref bl)] [])) (fun t k => castTop (ef_own_r5R m a d sc ms sp bl) k) ?_)
  have hEL := own_EW hw
  have hS0 : s.Since s.vm h0.size := (State.WarmedH.refl s).since _
  have R0 : CHr Z own_EL s.vm h0 s.vm h0 := CHr.refl hCH
  have K0 : Keep h0 h0 [a] := Keep.refl _ _
  have ne_a_d : a ≠ d := Exa.ne f0_E_a f0_E_d (by decide)
  have ne_a_sc : a ≠ sc := Exa.ne f0_E_a f0_E_sc (by decide)
  have ne_a_ms : a ≠ ms := Exa.ne f0_E_a f0_E_ms (by decide)
  have ne_a_tm : a ≠ tm := Exa.neArv f0_E_a f0_A_tm (wd17 hw)
  have ne_d_sc : d ≠ sc := Exa.ne f0_E_d f0_E_sc (by decide)
  have ne_d_ms : d ≠ ms := Exa.ne f0_E_d f0_E_ms (by decide)
  have ne_sc_ms : sc ≠ ms := Exa.ne f0_E_sc f0_E_ms (by decide)
  have ne_ms_tm : ms ≠ tm := Exa.neArv f0_E_ms f0_A_tm (wd10 hw)
  refine own_via (S' := s₁.setTop (mkF m 1 #[.val (.ref a), .val (.ref d), .val (.ref sc), .val (.ref ms), .val (.ref sp), .val (.ref bl)] [(.ref a)])) (fun t k => XS.aloadN X0.here hx rfl (hb hby d2_0) rfl rfl k) ?_
  obtain ⟨T1, X1, e1, st1⟩ := initO X0 hx hZ hown (wd25 hw) (wd26 hw) (wd27 hw) e0 (g := (mkF m 1 #[.val (.ref a), .val (.ref d), .val (.ref sc), .val (.ref ms), .val (.ref sp), .val (.ref bl)] [(.ref a)])) rfl (by rw [hml]; rfl) rfl (hb hby d2_1) (by decide) (W := 0) (by show 2 * 0 + _ ≤ _; exact Nat.le_of_eq rfl) (by decide)
  refine own_via (S' := T1.setTop (mkF m 4 #[.val (.ref a), .val (.ref d), .val (.ref sc), .val (.ref ms), .val (.ref sp), .val (.ref bl)] [])) st1 ?_
  refine own_via (S' := T1.setTop (mkF m 5 #[.val (.ref a), .val (.ref d), .val (.ref sc), .val (.ref ms), .val (.ref sp), .val (.ref bl)] [(.ref a)])) (fun t k => XS.aloadN X1.here hx rfl (hb hby d2_4) rfl rfl k) ?_
  refine own_via (S' := T1.setTop (mkF m 6 #[.val (.ref a), .val (.ref d), .val (.ref sc), .val (.ref ms), .val (.ref sp), .val (.ref bl)] [(.ref d), (.ref a)])) (fun t k => XS.aloadN X1.here hx rfl (hb hby d2_5) rfl rfl k) ?_
  obtain ⟨b2, T2, h2, kk2, t2, kb2, X2, e2, E2, hS2, hk2, hZ, hown, f2_0, f2_1, f2_2, f2_3, lta2, ltb2, R2q, hLit2, hsn2, st2⟩ := ldcCH X1 hx hZ hown (wd28 hw) (own_wS hw) e1 hS0 (by omega) hEL (List.mem_of_getElem? (i := 1) rfl) R0.1 (vs := [(.int (100 : Int32)), (.int (101 : Int32)), (.int (99 : Int32)), (.int (105 : Int32)), (.int (115 : Int32)), (.int (105 : Int32)), (.int (111 : Int32)), (.int (110 : Int32))]) (z := (8 : Int32)) ⟨by decide, rfl⟩ (by decide) rfl (g := (mkF m 6 #[.val (.ref a), .val (.ref d), .val (.ref sc), .val (.ref ms), .val (.ref sp), .val (.ref bl)] [(.ref d), (.ref a)])) rfl (hb hby d2_6) (n := 32) (by decide) (by decide) (by decide) (by decide)
  have sz3 : h0.size ≤ h2.size := E2.1
  have O4 : Old Z n0 h2 := O0.ext E2
  have R5 : CHr Z own_EL s.vm h0 T2.vm h2 := R0.trans R2q
  have K6 : Keep h0 h2 [a] := K0.ext E2
  have lt_b2 : h2.size > b2 := lta2
  have lt_t2 : h2.size > t2 := ltb2
  have cx7 : Exa Z h2 a "com/example/object_access_rules/objectaccessrules/Result" := (f0_E_a.ext E2)
  have ne_a_b2 : a ≠ b2 := (hsn2 _ (Safe.exa hZ.alike cx7 (by decide) (by decide))).1
  have ne_a_t2 : a ≠ t2 := (hsn2 _ (Safe.exa hZ.alike cx7 (by decide) (by decide))).2
  have cx8 : Exa Z h2 d "com/example/object_access_rules/objectaccessrules/Decision" := (f0_E_d.ext E2)
  have ne_d_b2 : d ≠ b2 := (hsn2 _ (Safe.exa hZ.alike cx8 (by decide) (by decide))).1
  have ne_d_t2 : d ≠ t2 := (hsn2 _ (Safe.exa hZ.alike cx8 (by decide) (by decide))).2
  have cx9 : Exa Z h2 sc "com/example/object_access_rules/objectaccessrules/StatusCode" := (f0_E_sc.ext E2)
  have ne_sc_b2 : sc ≠ b2 := (hsn2 _ (Safe.exa hZ.alike cx9 (by decide) (by decide))).1
  have ne_sc_t2 : sc ≠ t2 := (hsn2 _ (Safe.exa hZ.alike cx9 (by decide) (by decide))).2
  refine own_via (S' := T2.setTop (mkF m 8 #[.val (.ref a), .val (.ref d), .val (.ref sc), .val (.ref ms), .val (.ref sp), .val (.ref bl)] [(.ref b2), (.ref d), (.ref a)])) st2 ?_
  obtain ⟨_, _, ⟨T10, Lp10, kp10, np10⟩, -, X10, ⟨Lc10, hQ10, l10, y10, z10⟩, st10⟩ := Jvm.LawKit.callS X2 hx (y := mt0) hown (mvT hZ (wd29 hw)) (mvT hZ (wd30 hw)) (mvT hZ (wd31 hw)) (mvT hZ (wd32 hw)) (by decide) (backOf (W := 1) (own_rnn l Z a0 hw [] d b2 h2 n0 O4) hZ (wd32 hw) (wd31 hw) (by decide) (by decide)) (g := (mkF m 8 #[.val (.ref a), .val (.ref d), .val (.ref sc), .val (.ref ms), .val (.ref sp), .val (.ref bl)] [(.ref b2), (.ref d), (.ref a)])) rfl (by rw [hml]; rfl) (argsL := [(.ref d), (.ref b2)]) (rest := [(.ref a)]) (lenOf pd__Ljava_lang_Object_Ljava_lang_String__Ljava_lang_Object__5105 rfl) rfl (by show 2 * 0 + _ ≤ _; exact Nat.le_of_eq rfl) (hb hby d2_8) (fun _ _ => ⟨rfl, e2, (by decide : 2 + 0 ≤ _), (by decide : 36 + 0 ≤ _)⟩)
  dsimp only [Pt.U, Pt.locs, Pt.cells, Pt.slots] at X10 l10 y10 z10 st10 hQ10
  subst Lp10 kp10 np10
  obtain ⟨rfl, rfl, e10⟩ := hQ10
  try rw [List.append_nil] at X10
  refine own_via (S' := T10.setTop (mkF m 11 #[.val (.ref a), .val (.ref d), .val (.ref sc), .val (.ref ms), .val (.ref sp), .val (.ref bl)] [(.ref d), (.ref a)])) st10 ?_
  obtain ⟨T11, X11, e11, st11⟩ := castY X10 hx hZ hown (wd33 hw) e10 (Ins.self cx8) (g := (mkF m 11 #[.val (.ref a), .val (.ref d), .val (.ref sc), .val (.ref ms), .val (.ref sp), .val (.ref bl)] [(.ref d), (.ref a)])) rfl rfl (hb hby d2_11)
  refine own_via (S' := T11.setTop (mkF m 14 #[.val (.ref a), .val (.ref d), .val (.ref sc), .val (.ref ms), .val (.ref sp), .val (.ref bl)] [(.ref d), (.ref a)])) st11 ?_
  have cx12 : Fld Z h2 a "com/example/object_access_rules/objectaccessrules/Result" "decision" "Lcom/example/object_access_rules/objectaccessrules/Decision;" .null := (f0_F_a_decision.ext E2)
  obtain ⟨T13, h13, X13, e13, W13, st13⟩ := putF X11 hx hZ hown (host := "") (Or.inl (wd35 hw)) Via.refl e11 cx12 cx7 (Or.inr ⟨(wd36 hw), rfl, hnm⟩) (wd17 hw) (ty := (.object "com/example/object_access_rules/objectaccessrules/Decision")) (by decide) rfl rfl (g := (mkF m 14 #[.val (.ref a), .val (.ref d), .val (.ref sc), .val (.ref ms), .val (.ref sp), .val (.ref bl)] [(.ref d), (.ref a)])) rfl rfl (hb hby d2_14)
  have sf13 : Safe Z own_EL T2.vm h2 a := (Safe.exa hZ.alike cx7 (by decide) (by decide))
  have sz14 : h2.size ≤ h13.size := Nat.le_of_eq W13.size.symm
  have R15 : CHr Z own_EL s.vm h0 T2.vm h13 := R5.trans (CHr.wr W13 sf13 R5.1)
  have O16 : Old Z n0 h13 := O4.wr W13 (by omega : n0 ≤ a)
  have N13 := Fr.snoc X13 N0 (by omega : n0 ≤ a)
  have K17 : Keep h0 h13 [a] := K6.wr W13 (Or.inl (List.mem_of_getElem? (i := 0) rfl))
  have Fw13 : Fld Z h13 a "com/example/object_access_rules/objectaccessrules/Result" "decision" "Lcom/example/object_access_rules/objectaccessrules/Decision;" (.ref d) := Fld.same W13 cx12
  refine own_via (S' := T13.setTop (mkF m 17 #[.val (.ref a), .val (.ref d), .val (.ref sc), .val (.ref ms), .val (.ref sp), .val (.ref bl)] [])) st13 ?_
  refine own_via (S' := T13.setTop (mkF m 18 #[.val (.ref a), .val (.ref d), .val (.ref sc), .val (.ref ms), .val (.ref sp), .val (.ref bl)] [(.ref a)])) (fun t k => XS.aloadN X13.here hx rfl (hb hby d2_17) rfl rfl k) ?_
  refine own_via (S' := T13.setTop (mkF m 19 #[.val (.ref a), .val (.ref d), .val (.ref sc), .val (.ref ms), .val (.ref sp), .val (.ref bl)] [(.ref sc), (.ref a)])) (fun t k => XS.aloadN X13.here hx rfl (hb hby d2_18) rfl rfl k) ?_
  obtain ⟨b18, T18, h18, kk18, t18, kb18, X18, e18, E18, hS18, hk18, hZ, hown, f18_0, f18_1, f18_2, f18_3, lta18, ltb18, R18q, hLit18, hsn18, st18⟩ := ldcCH X13 hx hZ hown (wd37 hw) (own_wS hw) e13 hS2 (by omega) hEL (List.mem_of_getElem? (i := 2) rfl) R15.1 (vs := [(.int (115 : Int32)), (.int (116 : Int32)), (.int (97 : Int32)), (.int (116 : Int32)), (.int (117 : Int32)), (.int (115 : Int32))]) (z := (6 : Int32)) ⟨by decide, rfl⟩ (by decide) rfl (g := (mkF m 19 #[.val (.ref a), .val (.ref d), .val (.ref sc), .val (.ref ms), .val (.ref sp), .val (.ref bl)] [(.ref sc), (.ref a)])) rfl (hb hby d2_19) (n := 24) (by decide) (by decide) (by decide) (by decide)
  have sz19 : h13.size ≤ h18.size := E18.1
  have O20 : Old Z n0 h18 := O16.ext E18
  have R21 : CHr Z own_EL s.vm h0 T18.vm h18 := R15.trans R18q
  have K22 : Keep h0 h18 [a] := K17.ext E18
  have lt_b18 : h18.size > b18 := lta18
  have lt_t18 : h18.size > t18 := ltb18
  have cx23 : Exa Z h18 a "com/example/object_access_rules/objectaccessrules/Result" := ((Exa.wr W13 cx7).ext E18)
  have ne_a_b18 : a ≠ b18 := (hsn18 _ (Safe.exa hZ.alike cx23 (by decide) (by decide))).1
  have ne_a_t18 : a ≠ t18 := (hsn18 _ (Safe.exa hZ.alike cx23 (by decide) (by decide))).2
  have cx24 : Exa Z h18 d "com/example/object_access_rules/objectaccessrules/Decision" := ((Exa.wr W13 cx8).ext E18)
  have ne_d_b18 : d ≠ b18 := (hsn18 _ (Safe.exa hZ.alike cx24 (by decide) (by decide))).1
  have ne_d_t18 : d ≠ t18 := (hsn18 _ (Safe.exa hZ.alike cx24 (by decide) (by decide))).2
  have cx25 : Exa Z h18 sc "com/example/object_access_rules/objectaccessrules/StatusCode" := ((Exa.wr W13 cx9).ext E18)
  have ne_sc_b18 : sc ≠ b18 := (hsn18 _ (Safe.exa hZ.alike cx25 (by decide) (by decide))).1
  have ne_sc_t18 : sc ≠ t18 := (hsn18 _ (Safe.exa hZ.alike cx25 (by decide) (by decide))).2
  refine own_via (S' := T18.setTop (mkF m 21 #[.val (.ref a), .val (.ref d), .val (.ref sc), .val (.ref ms), .val (.ref sp), .val (.ref bl)] [(.ref b18), (.ref sc), (.ref a)])) st18 ?_
  obtain ⟨_, _, ⟨T26, Lp26, kp26, np26⟩, -, X26, ⟨Lc26, hQ26, l26, y26, z26⟩, st26⟩ := Jvm.LawKit.callS X18 hx (y := mt0) hown (mvT hZ (wd29 hw)) (mvT hZ (wd30 hw)) (mvT hZ (wd31 hw)) (mvT hZ (wd32 hw)) (by decide) (backOf (W := 1) (own_rnn l Z a0 hw [] sc b18 h18 n0 O20) hZ (wd32 hw) (wd31 hw) (by decide) (by decide)) (g := (mkF m 21 #[.val (.ref a), .val (.ref d), .val (.ref sc), .val (.ref ms), .val (.ref sp), .val (.ref bl)] [(.ref b18), (.ref sc), (.ref a)])) rfl (by rw [hml]; rfl) (argsL := [(.ref sc), (.ref b18)]) (rest := [(.ref a)]) (lenOf pd__Ljava_lang_Object_Ljava_lang_String__Ljava_lang_Object__5105 rfl) rfl (by show 2 * 0 + _ ≤ _; exact Nat.le_of_eq rfl) (hb hby d2_21) (fun _ _ => ⟨rfl, e18, (by decide : 4 + 0 ≤ _), (by decide : 64 + 0 ≤ _)⟩)
  dsimp only [Pt.U, Pt.locs, Pt.cells, Pt.slots] at X26 l26 y26 z26 st26 hQ26
  subst Lp26 kp26 np26
  obtain ⟨rfl, rfl, e26⟩ := hQ26
  try rw [List.append_nil] at X26
  refine own_via (S' := T26.setTop (mkF m 24 #[.val (.ref a), .val (.ref d), .val (.ref sc), .val (.ref ms), .val (.ref sp), .val (.ref bl)] [(.ref sc), (.ref a)])) st26 ?_
  obtain ⟨T27, X27, e27, st27⟩ := castY X26 hx hZ hown (wd38 hw) e26 (Ins.self cx25) (g := (mkF m 24 #[.val (.ref a), .val (.ref d), .val (.ref sc), .val (.ref ms), .val (.ref sp), .val (.ref bl)] [(.ref sc), (.ref a)])) rfl rfl (hb hby d2_24)
  refine own_via (S' := T27.setTop (mkF m 27 #[.val (.ref a), .val (.ref d), .val (.ref sc), .val (.ref ms), .val (.ref sp), .val (.ref bl)] [(.ref sc), (.ref a)])) st27 ?_
  have cx28 : Fld Z h18 a "com/example/object_access_rules/objectaccessrules/Result" "status" "Lcom/example/object_access_rules/objectaccessrules/StatusCode;" .null := ((Fld.other W13 (f0_F_a_status.ext E2) (Or.inr (slot_ne (Or.inr (wd41 hw)) (Or.inr (wd36 hw)) (by decide) (t := (.object "com/example/object_access_rules/objectaccessrules/StatusCode")) (t' := (.object "com/example/object_access_rules/objectaccessrules/Decision")) (by decide) (by decide)))).ext E18)
  obtain ⟨T29, h29, X29, e29, W29, st29⟩ := putF X27 hx hZ hown (host := "") (Or.inl (wd40 hw)) Via.refl e27 cx28 cx23 (Or.inr ⟨(wd41 hw), rfl, hnm⟩) (wd17 hw) (ty := (.object "com/example/object_access_rules/objectaccessrules/StatusCode")) (by decide) rfl rfl (g := (mkF m 27 #[.val (.ref a), .val (.ref d), .val (.ref sc), .val (.ref ms), .val (.ref sp), .val (.ref bl)] [(.ref sc), (.ref a)])) rfl rfl (hb hby d2_27)
  have sf29 : Safe Z own_EL T18.vm h18 a := (Safe.exa hZ.alike cx23 (by decide) (by decide))
  have sz30 : h18.size ≤ h29.size := Nat.le_of_eq W29.size.symm
  have R31 : CHr Z own_EL s.vm h0 T18.vm h29 := R21.trans (CHr.wr W29 sf29 R21.1)
  have O32 : Old Z n0 h29 := O20.wr W29 (by omega : n0 ≤ a)
  have N29 := Fr.snoc X29 N13 (by omega : n0 ≤ a)
  have K33 : Keep h0 h29 [a] := K22.wr W29 (Or.inl (List.mem_of_getElem? (i := 0) rfl))
  have Fw29 : Fld Z h29 a "com/example/object_access_rules/objectaccessrules/Result" "status" "Lcom/example/object_access_rules/objectaccessrules/StatusCode;" (.ref sc) := Fld.same W29 cx28
  refine own_via (S' := T29.setTop (mkF m 30 #[.val (.ref a), .val (.ref d), .val (.ref sc), .val (.ref ms), .val (.ref sp), .val (.ref bl)] [])) st29 ?_
  refine own_via (S' := T29.setTop (mkF m 31 #[.val (.ref a), .val (.ref d), .val (.ref sc), .val (.ref ms), .val (.ref sp), .val (.ref bl)] [(.ref a)])) (fun t k => XS.aloadN X29.here hx rfl (hb hby d2_30) rfl rfl k) ?_
  refine own_via (S' := T29.setTop (mkF m 32 #[.val (.ref a), .val (.ref d), .val (.ref sc), .val (.ref ms), .val (.ref sp), .val (.ref bl)] [(.ref ms), (.ref a)])) (fun t k => XS.aloadN X29.here hx rfl (hb hby d2_31) rfl rfl k) ?_
  obtain ⟨b34, T34, h34, kk34, t34, kb34, X34, e34, E34, hS34, hk34, hZ, hown, f34_0, f34_1, f34_2, f34_3, lta34, ltb34, R34q, hLit34, hsn34, st34⟩ := ldcCH X29 hx hZ hown (wd42 hw) (own_wS hw) e29 hS18 (by omega) hEL (List.mem_of_getElem? (i := 3) rfl) R31.1 (vs := [(.int (109 : Int32)), (.int (101 : Int32)), (.int (115 : Int32)), (.int (115 : Int32)), (.int (97 : Int32)), (.int (103 : Int32)), (.int (101 : Int32))]) (z := (7 : Int32)) ⟨by decide, rfl⟩ (by decide) rfl (g := (mkF m 32 #[.val (.ref a), .val (.ref d), .val (.ref sc), .val (.ref ms), .val (.ref sp), .val (.ref bl)] [(.ref ms), (.ref a)])) rfl (hb hby d2_32) (n := 28) (by decide) (by decide) (by decide) (by decide)
  have sz35 : h29.size ≤ h34.size := E34.1
  have O36 : Old Z n0 h34 := O32.ext E34
  have R37 : CHr Z own_EL s.vm h0 T34.vm h34 := R31.trans R34q
  have K38 : Keep h0 h34 [a] := K33.ext E34
  have lt_b34 : h34.size > b34 := lta34
  have lt_t34 : h34.size > t34 := ltb34
  have cx39 : Exa Z h34 a "com/example/object_access_rules/objectaccessrules/Result" := ((Exa.wr W29 cx23).ext E34)
  have ne_a_b34 : a ≠ b34 := (hsn34 _ (Safe.exa hZ.alike cx39 (by decide) (by decide))).1
  have ne_a_t34 : a ≠ t34 := (hsn34 _ (Safe.exa hZ.alike cx39 (by decide) (by decide))).2
  have cx40 : Exa Z h34 d "com/example/object_access_rules/objectaccessrules/Decision" := ((Exa.wr W29 cx24).ext E34)
  have ne_d_b34 : d ≠ b34 := (hsn34 _ (Safe.exa hZ.alike cx40 (by decide) (by decide))).1
  have ne_d_t34 : d ≠ t34 := (hsn34 _ (Safe.exa hZ.alike cx40 (by decide) (by decide))).2
  have cx41 : Exa Z h34 sc "com/example/object_access_rules/objectaccessrules/StatusCode" := ((Exa.wr W29 cx25).ext E34)
  have ne_sc_b34 : sc ≠ b34 := (hsn34 _ (Safe.exa hZ.alike cx41 (by decide) (by decide))).1
  have ne_sc_t34 : sc ≠ t34 := (hsn34 _ (Safe.exa hZ.alike cx41 (by decide) (by decide))).2
  refine own_via (S' := T34.setTop (mkF m 34 #[.val (.ref a), .val (.ref d), .val (.ref sc), .val (.ref ms), .val (.ref sp), .val (.ref bl)] [(.ref b34), (.ref ms), (.ref a)])) st34 ?_
  obtain ⟨_, _, ⟨T42, Lp42, kp42, np42⟩, -, X42, ⟨Lc42, hQ42, l42, y42, z42⟩, st42⟩ := Jvm.LawKit.callS X34 hx (y := mt0) hown (mvT hZ (wd29 hw)) (mvT hZ (wd30 hw)) (mvT hZ (wd31 hw)) (mvT hZ (wd32 hw)) (by decide) (backOf (W := 1) (own_rnn l Z a0 hw [] ms b34 h34 n0 O36) hZ (wd32 hw) (wd31 hw) (by decide) (by decide)) (g := (mkF m 34 #[.val (.ref a), .val (.ref d), .val (.ref sc), .val (.ref ms), .val (.ref sp), .val (.ref bl)] [(.ref b34), (.ref ms), (.ref a)])) rfl (by rw [hml]; rfl) (argsL := [(.ref ms), (.ref b34)]) (rest := [(.ref a)]) (lenOf pd__Ljava_lang_Object_Ljava_lang_String__Ljava_lang_Object__5105 rfl) rfl (by show 2 * 0 + _ ≤ _; exact Nat.le_of_eq rfl) (hb hby d2_34) (fun _ _ => ⟨rfl, e34, (by decide : 6 + 0 ≤ _), (by decide : 96 + 0 ≤ _)⟩)
  dsimp only [Pt.U, Pt.locs, Pt.cells, Pt.slots] at X42 l42 y42 z42 st42 hQ42
  subst Lp42 kp42 np42
  obtain ⟨rfl, rfl, e42⟩ := hQ42
  try rw [List.append_nil] at X42
  refine own_via (S' := T42.setTop (mkF m 37 #[.val (.ref a), .val (.ref d), .val (.ref sc), .val (.ref ms), .val (.ref sp), .val (.ref bl)] [(.ref ms), (.ref a)])) st42 ?_
  have cx43 : Exa Z h34 ms "java/lang/String" := ((Exa.wr W29 ((Exa.wr W13 (f0_E_ms.ext E2)).ext E18)).ext E34)
  obtain ⟨T44, X44, e44, st44⟩ := castY X42 hx hZ hown (wd43 hw) e42 (Ins.self cx43) (g := (mkF m 37 #[.val (.ref a), .val (.ref d), .val (.ref sc), .val (.ref ms), .val (.ref sp), .val (.ref bl)] [(.ref ms), (.ref a)])) rfl rfl (hb hby d2_37)
  refine own_via (S' := T44.setTop (mkF m 40 #[.val (.ref a), .val (.ref d), .val (.ref sc), .val (.ref ms), .val (.ref sp), .val (.ref bl)] [(.ref ms), (.ref a)])) st44 ?_
  have cx45 : Fld Z h34 a "com/example/object_access_rules/objectaccessrules/Result" "message" "Ljava/lang/String;" .null := ((Fld.other W29 ((Fld.other W13 (f0_F_a_message.ext E2) (Or.inr (slot_ne (Or.inr (wd46 hw)) (Or.inr (wd36 hw)) (by decide) (t := (.object "java/lang/String")) (t' := (.object "com/example/object_access_rules/objectaccessrules/Decision")) (by decide) (by decide)))).ext E18) (Or.inr (slot_ne (Or.inr (wd46 hw)) (Or.inr (wd41 hw)) (by decide) (t := (.object "java/lang/String")) (t' := (.object "com/example/object_access_rules/objectaccessrules/StatusCode")) (by decide) (by decide)))).ext E34)
  obtain ⟨T46, h46, X46, e46, W46, st46⟩ := putF X44 hx hZ hown (host := "") (Or.inl (wd45 hw)) Via.refl e44 cx45 cx39 (Or.inr ⟨(wd46 hw), rfl, hnm⟩) (wd17 hw) (ty := (.object "java/lang/String")) (by decide) rfl rfl (g := (mkF m 40 #[.val (.ref a), .val (.ref d), .val (.ref sc), .val (.ref ms), .val (.ref sp), .val (.ref bl)] [(.ref ms), (.ref a)])) rfl rfl (hb hby d2_40)
  have sf46 : Safe Z own_EL T34.vm h34 a := (Safe.exa hZ.alike cx39 (by decide) (by decide))
  have sz47 : h34.size ≤ h46.size := Nat.le_of_eq W46.size.symm
  have R48 : CHr Z own_EL s.vm h0 T34.vm h46 := R37.trans (CHr.wr W46 sf46 R37.1)
  have O49 : Old Z n0 h46 := O36.wr W46 (by omega : n0 ≤ a)
  have N46 := Fr.snoc X46 N29 (by omega : n0 ≤ a)
  have K50 : Keep h0 h46 [a] := K38.wr W46 (Or.inl (List.mem_of_getElem? (i := 0) rfl))
  have Fw46 : Fld Z h46 a "com/example/object_access_rules/objectaccessrules/Result" "message" "Ljava/lang/String;" (.ref ms) := Fld.same W46 cx45
  refine own_via (S' := T46.setTop (mkF m 43 #[.val (.ref a), .val (.ref d), .val (.ref sc), .val (.ref ms), .val (.ref sp), .val (.ref bl)] [])) st46 ?_
  refine own_via (S' := T46.setTop (mkF m 44 #[.val (.ref a), .val (.ref d), .val (.ref sc), .val (.ref ms), .val (.ref sp), .val (.ref bl)] [(.ref d)])) (fun t k => XS.aloadN X46.here hx rfl (hb hby d2_43) rfl rfl k) ?_
  have cx51 : Sta Z h46 "com/example/object_access_rules/objectaccessrules/Decision" "INDETERMINATE" "Lcom/example/object_access_rules/objectaccessrules/Decision;" (.ref wI) := zf_S_com_example_object_access_rules_objectaccessrules_Decision_INDETERMINATE.ext O49.2
  obtain ⟨T52, X52, e52, st52⟩ := getS2 X46 hx hZ hown (host := "") (Or.inl (wd47 hw)) Via.refl e46 cx51 (g := (mkF m 44 #[.val (.ref a), .val (.ref d), .val (.ref sc), .val (.ref ms), .val (.ref sp), .val (.ref bl)] [(.ref d)])) rfl (hb hby d2_44)
  refine own_via (S' := T52.setTop (mkF m 47 #[.val (.ref a), .val (.ref d), .val (.ref sc), .val (.ref ms), .val (.ref sp), .val (.ref bl)] [(.ref wI), (.ref d)])) st52 ?_
  by_cases hc47_53 : d = wI
  · -- yes
    refine own_via (S' := T52.setTop (mkF m 50 #[.val (.ref a), .val (.ref d), .val (.ref sc), .val (.ref ms), .val (.ref sp), .val (.ref bl)] [])) (fun t k => Jvm.RoadKit.acmp (g := (mkF m 47 #[.val (.ref a), .val (.ref d), .val (.ref sc), .val (.ref ms), .val (.ref sp), .val (.ref bl)] [(.ref wI), (.ref d)])) X52 hx rfl rfl rfl (pc0 := 47) (pc' := 50) (same := true) rfl (hb hby d2_47) rfl (decide_eq_true (congrArg Value.ref hc47_53)) (by decide) (by decide) k) ?_
    refine own_via (S' := T52.setTop (mkF m 51 #[.val (.ref a), .val (.ref d), .val (.ref sc), .val (.ref ms), .val (.ref sp), .val (.ref bl)] [(.int (1 : Int32))])) (fun t k => XS.iconst X52.here hx rfl (hb hby d2_50) k) ?_
    refine own_via (S' := T52.setTop (mkF m 55 #[.val (.ref a), .val (.ref d), .val (.ref sc), .val (.ref ms), .val (.ref sp), .val (.ref bl)] [(.int (1 : Int32))])) (fun t k => XS.goto X52.here hx rfl (pc0 := 51) (pc' := 55) rfl (hb hby d2_51) (by decide) (by decide) k) ?_
    refine own_via (S' := T52.setTop (mkF m 56 #[.val (.ref a), .val (.ref d), .val (.ref sc), .val (.ref ms), .val (.ref sp), .val (.ref bl)] [(.ref sc), (.int (1 : Int32))])) (fun t k => XS.aloadN X52.here hx rfl (hb hby d2_55) rfl rfl k) ?_
    have cx54 : Sta Z h46 "com/example/object_access_rules/objectaccessrules/StatusCode" "OK" "Lcom/example/object_access_rules/objectaccessrules/StatusCode;" (.ref wO) := zf_S_com_example_object_access_rules_objectaccessrules_StatusCode_OK.ext O49.2
    obtain ⟨T55, X55, e55, st55⟩ := getS2 X52 hx hZ hown (host := "") (Or.inl (wd48 hw)) Via.refl e52 cx54 (g := (mkF m 56 #[.val (.ref a), .val (.ref d), .val (.ref sc), .val (.ref ms), .val (.ref sp), .val (.ref bl)] [(.ref sc), (.int (1 : Int32))])) rfl (hb hby d2_56)
    refine own_via (S' := T55.setTop (mkF m 59 #[.val (.ref a), .val (.ref d), .val (.ref sc), .val (.ref ms), .val (.ref sp), .val (.ref bl)] [(.ref wO), (.ref sc), (.int (1 : Int32))])) st55 ?_
    have hc59_56 : ¬ (sc = wO) := by rcases hcons with q | q; exact q.2; exact absurd hc47_53 q.1
    refine own_via (S' := T55.setTop (mkF m 66 #[.val (.ref a), .val (.ref d), .val (.ref sc), .val (.ref ms), .val (.ref sp), .val (.ref bl)] [(.int (1 : Int32))])) (fun t k => Jvm.RoadKit.acmp (g := (mkF m 59 #[.val (.ref a), .val (.ref d), .val (.ref sc), .val (.ref ms), .val (.ref sp), .val (.ref bl)] [(.ref wO), (.ref sc), (.int (1 : Int32))])) X55 hx rfl rfl rfl (pc0 := 59) (pc' := 66) (same := false) rfl (hb hby d2_59) rfl (decide_eq_false fun q => hc59_56 (Value.ref.inj q)) (by decide) (by decide) k) ?_
    refine own_via (S' := T55.setTop (mkF m 67 #[.val (.ref a), .val (.ref d), .val (.ref sc), .val (.ref ms), .val (.ref sp), .val (.ref bl)] [(.int (0 : Int32)), (.int (1 : Int32))])) (fun t k => XS.iconst X55.here hx rfl (hb hby d2_66) k) ?_
    refine own_via (S' := T55.setTop (mkF m 91 #[.val (.ref a), .val (.ref d), .val (.ref sc), .val (.ref ms), .val (.ref sp), .val (.ref bl)] [])) (fun t k => XS.icmpYes X55.here hx rfl (pc0 := 67) (pc' := 91) rfl (hb hby d2_67) rfl (feq (by decide : ¬ ((1 : Int32) = (0 : Int32)))).2 (by decide) (by decide) k) ?_
    refine own_via (S' := T55.setTop (mkF m 92 #[.val (.ref a), .val (.ref d), .val (.ref sc), .val (.ref ms), .val (.ref sp), .val (.ref bl)] [(.ref d)])) (fun t k => XS.aloadN X55.here hx rfl (hb hby d2_91) rfl rfl k) ?_
    obtain ⟨T57, X57, e57, st57⟩ := getS2 X55 hx hZ hown (host := "") (Or.inl (wd47 hw)) Via.refl e55 cx51 (g := (mkF m 92 #[.val (.ref a), .val (.ref d), .val (.ref sc), .val (.ref ms), .val (.ref sp), .val (.ref bl)] [(.ref d)])) rfl (hb hby d2_92)
    refine own_via (S' := T57.setTop (mkF m 95 #[.val (.ref a), .val (.ref d), .val (.ref sc), .val (.ref ms), .val (.ref sp), .val (.ref bl)] [(.ref wI), (.ref d)])) st57 ?_
    refine own_via (S' := T57.setTop (mkF m 123 #[.val (.ref a), .val (.ref d), .val (.ref sc), .val (.ref ms), .val (.ref sp), .val (.ref bl)] [])) (fun t k => Jvm.RoadKit.acmp (g := (mkF m 95 #[.val (.ref a), .val (.ref d), .val (.ref sc), .val (.ref ms), .val (.ref sp), .val (.ref bl)] [(.ref wI), (.ref d)])) X57 hx rfl rfl rfl (pc0 := 95) (pc' := 123) (same := true) rfl (hb hby d2_95) rfl (decide_eq_true (congrArg Value.ref hc47_53)) (by decide) (by decide) k) ?_
    refine own_via (S' := T57.setTop (mkF m 124 #[.val (.ref a), .val (.ref d), .val (.ref sc), .val (.ref ms), .val (.ref sp), .val (.ref bl)] [(.ref a)])) (fun t k => XS.aloadN X57.here hx rfl (hb hby d2_123) rfl rfl k) ?_
    refine own_via (S' := T57.setTop (mkF m 126 #[.val (.ref a), .val (.ref d), .val (.ref sc), .val (.ref ms), .val (.ref sp), .val (.ref bl)] [(.ref sp), (.ref a)])) (fun t k => XS.aload X57.here hx rfl (hb hby d2_124) rfl rfl k) ?_
    have cx58 : Exa Z h46 a "com/example/object_access_rules/objectaccessrules/Result" := (Exa.wr W46 cx39)
    have cx59 : Fld Z h46 a "com/example/object_access_rules/objectaccessrules/Result" "step" "Ljava/lang/String;" .null := (Fld.other W46 ((Fld.other W29 ((Fld.other W13 (f0_F_a_step.ext E2) (Or.inr (slot_ne (Or.inr (wd56 hw)) (Or.inr (wd36 hw)) (by decide) (t := (.object "java/lang/String")) (t' := (.object "com/example/object_access_rules/objectaccessrules/Decision")) (by decide) (by decide)))).ext E18) (Or.inr (slot_ne (Or.inr (wd56 hw)) (Or.inr (wd41 hw)) (by decide) (t := (.object "java/lang/String")) (t' := (.object "com/example/object_access_rules/objectaccessrules/StatusCode")) (by decide) (by decide)))).ext E34) (Or.inr (slot_ne (Or.inr (wd56 hw)) (Or.inr (wd46 hw)) (by decide) (t := (.object "java/lang/String")) (t' := (.object "java/lang/String")) (by decide) (by decide))))
    obtain ⟨T60, h60, X60, e60, W60, st60⟩ := putF X57 hx hZ hown (host := "") (Or.inl (wd55 hw)) Via.refl e57 cx59 cx58 (Or.inr ⟨(wd56 hw), rfl, hnm⟩) (wd17 hw) (ty := (.object "java/lang/String")) (by decide) rfl rfl (g := (mkF m 126 #[.val (.ref a), .val (.ref d), .val (.ref sc), .val (.ref ms), .val (.ref sp), .val (.ref bl)] [(.ref sp), (.ref a)])) rfl rfl (hb hby d2_126)
    have sf60 : Safe Z own_EL T34.vm h46 a := (Safe.exa hZ.alike cx58 (by decide) (by decide))
    have sz61 : h46.size ≤ h60.size := Nat.le_of_eq W60.size.symm
    have R62 : CHr Z own_EL s.vm h0 T34.vm h60 := R48.trans (CHr.wr W60 sf60 R48.1)
    have O63 : Old Z n0 h60 := O49.wr W60 (by omega : n0 ≤ a)
    have N60 := Fr.snoc X60 N46 (by omega : n0 ≤ a)
    have K64 : Keep h0 h60 [a] := K50.wr W60 (Or.inl (List.mem_of_getElem? (i := 0) rfl))
    have Fw60 : Fld Z h60 a "com/example/object_access_rules/objectaccessrules/Result" "step" "Ljava/lang/String;" (.ref sp) := Fld.same W60 cx59
    refine own_via (S' := T60.setTop (mkF m 129 #[.val (.ref a), .val (.ref d), .val (.ref sc), .val (.ref ms), .val (.ref sp), .val (.ref bl)] [])) st60 ?_
    refine own_via (S' := T60.setTop (mkF m 130 #[.val (.ref a), .val (.ref d), .val (.ref sc), .val (.ref ms), .val (.ref sp), .val (.ref bl)] [(.ref a)])) (fun t k => XS.aloadN X60.here hx rfl (hb hby d2_129) rfl rfl k) ?_
    refine own_via (S' := T60.setTop (mkF m 132 #[.val (.ref a), .val (.ref d), .val (.ref sc), .val (.ref ms), .val (.ref sp), .val (.ref bl)] [(.ref bl), (.ref a)])) (fun t k => XS.aload X60.here hx rfl (hb hby d2_130) rfl rfl k) ?_
    have cx65 : Exa Z h60 a "com/example/object_access_rules/objectaccessrules/Result" := (Exa.wr W60 cx58)
    have cx66 : Fld Z h60 a "com/example/object_access_rules/objectaccessrules/Result" "below" "Lcom/example/object_access_rules/objectaccessrules/Result;" .null := (Fld.other W60 (Fld.other W46 ((Fld.other W29 ((Fld.other W13 (f0_F_a_below.ext E2) (Or.inr (slot_ne (Or.inr (wd58 hw)) (Or.inr (wd36 hw)) (by decide) (t := (.object "com/example/object_access_rules/objectaccessrules/Result")) (t' := (.object "com/example/object_access_rules/objectaccessrules/Decision")) (by decide) (by decide)))).ext E18) (Or.inr (slot_ne (Or.inr (wd58 hw)) (Or.inr (wd41 hw)) (by decide) (t := (.object "com/example/object_access_rules/objectaccessrules/Result")) (t' := (.object "com/example/object_access_rules/objectaccessrules/StatusCode")) (by decide) (by decide)))).ext E34) (Or.inr (slot_ne (Or.inr (wd58 hw)) (Or.inr (wd46 hw)) (by decide) (t := (.object "com/example/object_access_rules/objectaccessrules/Result")) (t' := (.object "java/lang/String")) (by decide) (by decide)))) (Or.inr (slot_ne (Or.inr (wd58 hw)) (Or.inr (wd56 hw)) (by decide) (t := (.object "com/example/object_access_rules/objectaccessrules/Result")) (t' := (.object "java/lang/String")) (by decide) (by decide))))
    obtain ⟨T67, h67, X67, e67, W67, st67⟩ := putF X60 hx hZ hown (host := "") (Or.inl (wd57 hw)) Via.refl e60 cx66 cx65 (Or.inr ⟨(wd58 hw), rfl, hnm⟩) (wd17 hw) (ty := (.object "com/example/object_access_rules/objectaccessrules/Result")) (by decide) rfl rfl (g := (mkF m 132 #[.val (.ref a), .val (.ref d), .val (.ref sc), .val (.ref ms), .val (.ref sp), .val (.ref bl)] [(.ref bl), (.ref a)])) rfl rfl (hb hby d2_132)
    have sf67 : Safe Z own_EL T34.vm h60 a := (Safe.exa hZ.alike cx65 (by decide) (by decide))
    have sz68 : h60.size ≤ h67.size := Nat.le_of_eq W67.size.symm
    have R69 : CHr Z own_EL s.vm h0 T34.vm h67 := R62.trans (CHr.wr W67 sf67 R62.1)
    have O70 : Old Z n0 h67 := O63.wr W67 (by omega : n0 ≤ a)
    have N67 := Fr.snoc X67 N60 (by omega : n0 ≤ a)
    have K71 : Keep h0 h67 [a] := K64.wr W67 (Or.inl (List.mem_of_getElem? (i := 0) rfl))
    have Fw67 : Fld Z h67 a "com/example/object_access_rules/objectaccessrules/Result" "below" "Lcom/example/object_access_rules/objectaccessrules/Result;" (.ref bl) := Fld.same W67 cx66
    refine own_via (S' := T67.setTop (mkF m 135 #[.val (.ref a), .val (.ref d), .val (.ref sc), .val (.ref ms), .val (.ref sp), .val (.ref bl)] [])) st67 ?_
    have cx72 : Fld Z h67 a "com/example/object_access_rules/objectaccessrules/Result" "decision" "Lcom/example/object_access_rules/objectaccessrules/Decision;" (.ref d) := (Fld.other W67 (Fld.other W60 (Fld.other W46 ((Fld.other W29 (Fw13.ext E18) (Or.inr (slot_ne (Or.inr (wd36 hw)) (Or.inr (wd41 hw)) (by decide) (t := (.object "com/example/object_access_rules/objectaccessrules/Decision")) (t' := (.object "com/example/object_access_rules/objectaccessrules/StatusCode")) (by decide) (by decide)))).ext E34) (Or.inr (slot_ne (Or.inr (wd36 hw)) (Or.inr (wd46 hw)) (by decide) (t := (.object "com/example/object_access_rules/objectaccessrules/Decision")) (t' := (.object "java/lang/String")) (by decide) (by decide)))) (Or.inr (slot_ne (Or.inr (wd36 hw)) (Or.inr (wd56 hw)) (by decide) (t := (.object "com/example/object_access_rules/objectaccessrules/Decision")) (t' := (.object "java/lang/String")) (by decide) (by decide)))) (Or.inr (slot_ne (Or.inr (wd36 hw)) (Or.inr (wd58 hw)) (by decide) (t := (.object "com/example/object_access_rules/objectaccessrules/Decision")) (t' := (.object "com/example/object_access_rules/objectaccessrules/Result")) (by decide) (by decide))))
    have cx73 : Fld Z h67 a "com/example/object_access_rules/objectaccessrules/Result" "status" "Lcom/example/object_access_rules/objectaccessrules/StatusCode;" (.ref sc) := (Fld.other W67 (Fld.other W60 (Fld.other W46 (Fw29.ext E34) (Or.inr (slot_ne (Or.inr (wd41 hw)) (Or.inr (wd46 hw)) (by decide) (t := (.object "com/example/object_access_rules/objectaccessrules/StatusCode")) (t' := (.object "java/lang/String")) (by decide) (by decide)))) (Or.inr (slot_ne (Or.inr (wd41 hw)) (Or.inr (wd56 hw)) (by decide) (t := (.object "com/example/object_access_rules/objectaccessrules/StatusCode")) (t' := (.object "java/lang/String")) (by decide) (by decide)))) (Or.inr (slot_ne (Or.inr (wd41 hw)) (Or.inr (wd58 hw)) (by decide) (t := (.object "com/example/object_access_rules/objectaccessrules/StatusCode")) (t' := (.object "com/example/object_access_rules/objectaccessrules/Result")) (by decide) (by decide))))
    have cx74 : Fld Z h67 a "com/example/object_access_rules/objectaccessrules/Result" "message" "Ljava/lang/String;" (.ref ms) := (Fld.other W67 (Fld.other W60 Fw46 (Or.inr (slot_ne (Or.inr (wd46 hw)) (Or.inr (wd56 hw)) (by decide) (t := (.object "java/lang/String")) (t' := (.object "java/lang/String")) (by decide) (by decide)))) (Or.inr (slot_ne (Or.inr (wd46 hw)) (Or.inr (wd58 hw)) (by decide) (t := (.object "java/lang/String")) (t' := (.object "com/example/object_access_rules/objectaccessrules/Result")) (by decide) (by decide))))
    have cx75 : Fld Z h67 a "com/example/object_access_rules/objectaccessrules/Result" "step" "Ljava/lang/String;" (.ref sp) := (Fld.other W67 Fw60 (Or.inr (slot_ne (Or.inr (wd56 hw)) (Or.inr (wd58 hw)) (by decide) (t := (.object "java/lang/String")) (t' := (.object "com/example/object_access_rules/objectaccessrules/Result")) (by decide) (by decide))))
    have RTR69 : CHr Z own_EL s.vm h0 T67.vm h67 := R69.trans (CHv.at X67 hZ hEL R69.1)
    have RXR69 : CHr Z own_EL s.vm s.heap T67.vm T67.heap := by rw [hh, e67]; exact RTR69
    refine own_retW (Q := Q_own_r5R Z a d sc ms sp bl tm km zl vsm wI wO h0 n0) (C := ({ frames := 1, cells := 6, slots := 96, locals := 14 } : Room).cells) (N := ({ frames := 1, cells := 6, slots := 96, locals := 14 } : Room).slots) X67 hS34 (by rw [e67]; omega) (v := none) (fun _ => rfl) Bd.notSynchronized ?_ RXR69 (by decide) (by decide) (fun fs hr => X67.returnOut hx Bd.returns (hb hby d2_135) hr)
    show Q_own_r5R Z a d sc ms sp bl tm km zl vsm wI wO h0 n0 _ T67.vm T67.heap _
    rw [e67]
    exact ⟨rfl, N67, K71, cx72, cx73, cx74, cx75, Fw67⟩
  · -- no
    refine own_via (S' := T52.setTop (mkF m 54 #[.val (.ref a), .val (.ref d), .val (.ref sc), .val (.ref ms), .val (.ref sp), .val (.ref bl)] [])) (fun t k => Jvm.RoadKit.acmp (g := (mkF m 47 #[.val (.ref a), .val (.ref d), .val (.ref sc), .val (.ref ms), .val (.ref sp), .val (.ref bl)] [(.ref wI), (.ref d)])) X52 hx rfl rfl rfl (pc0 := 47) (pc' := 54) (same := false) rfl (hb hby d2_47) rfl (decide_eq_false fun q => hc47_53 (Value.ref.inj q)) (by decide) (by decide) k) ?_
    refine own_via (S' := T52.setTop (mkF m 55 #[.val (.ref a), .val (.ref d), .val (.ref sc), .val (.ref ms), .val (.ref sp), .val (.ref bl)] [(.int (0 : Int32))])) (fun t k => XS.iconst X52.here hx rfl (hb hby d2_54) k) ?_
    refine own_via (S' := T52.setTop (mkF m 56 #[.val (.ref a), .val (.ref d), .val (.ref sc), .val (.ref ms), .val (.ref sp), .val (.ref bl)] [(.ref sc), (.int (0 : Int32))])) (fun t k => XS.aloadN X52.here hx rfl (hb hby d2_55) rfl rfl k) ?_
    have cx76 : Sta Z h46 "com/example/object_access_rules/objectaccessrules/StatusCode" "OK" "Lcom/example/object_access_rules/objectaccessrules/StatusCode;" (.ref wO) := zf_S_com_example_object_access_rules_objectaccessrules_StatusCode_OK.ext O49.2
    obtain ⟨T77, X77, e77, st77⟩ := getS2 X52 hx hZ hown (host := "") (Or.inl (wd48 hw)) Via.refl e52 cx76 (g := (mkF m 56 #[.val (.ref a), .val (.ref d), .val (.ref sc), .val (.ref ms), .val (.ref sp), .val (.ref bl)] [(.ref sc), (.int (0 : Int32))])) rfl (hb hby d2_56)
    refine own_via (S' := T77.setTop (mkF m 59 #[.val (.ref a), .val (.ref d), .val (.ref sc), .val (.ref ms), .val (.ref sp), .val (.ref bl)] [(.ref wO), (.ref sc), (.int (0 : Int32))])) st77 ?_
    have hc59_78 : sc = wO := by rcases hcons with q | q; exact absurd q.1 hc47_53; exact q.2.1
    refine own_via (S' := T77.setTop (mkF m 62 #[.val (.ref a), .val (.ref d), .val (.ref sc), .val (.ref ms), .val (.ref sp), .val (.ref bl)] [(.int (0 : Int32))])) (fun t k => Jvm.RoadKit.acmp (g := (mkF m 59 #[.val (.ref a), .val (.ref d), .val (.ref sc), .val (.ref ms), .val (.ref sp), .val (.ref bl)] [(.ref wO), (.ref sc), (.int (0 : Int32))])) X77 hx rfl rfl rfl (pc0 := 59) (pc' := 62) (same := true) rfl (hb hby d2_59) rfl (decide_eq_true (congrArg Value.ref hc59_78)) (by decide) (by decide) k) ?_
    refine own_via (S' := T77.setTop (mkF m 63 #[.val (.ref a), .val (.ref d), .val (.ref sc), .val (.ref ms), .val (.ref sp), .val (.ref bl)] [(.int (1 : Int32)), (.int (0 : Int32))])) (fun t k => XS.iconst X77.here hx rfl (hb hby d2_62) k) ?_
    refine own_via (S' := T77.setTop (mkF m 67 #[.val (.ref a), .val (.ref d), .val (.ref sc), .val (.ref ms), .val (.ref sp), .val (.ref bl)] [(.int (1 : Int32)), (.int (0 : Int32))])) (fun t k => XS.goto X77.here hx rfl (pc0 := 63) (pc' := 67) rfl (hb hby d2_63) (by decide) (by decide) k) ?_
    refine own_via (S' := T77.setTop (mkF m 91 #[.val (.ref a), .val (.ref d), .val (.ref sc), .val (.ref ms), .val (.ref sp), .val (.ref bl)] [])) (fun t k => XS.icmpYes X77.here hx rfl (pc0 := 67) (pc' := 91) rfl (hb hby d2_67) rfl (feq (by decide : ¬ ((0 : Int32) = (1 : Int32)))).2 (by decide) (by decide) k) ?_
    refine own_via (S' := T77.setTop (mkF m 92 #[.val (.ref a), .val (.ref d), .val (.ref sc), .val (.ref ms), .val (.ref sp), .val (.ref bl)] [(.ref d)])) (fun t k => XS.aloadN X77.here hx rfl (hb hby d2_91) rfl rfl k) ?_
    obtain ⟨T79, X79, e79, st79⟩ := getS2 X77 hx hZ hown (host := "") (Or.inl (wd47 hw)) Via.refl e77 cx51 (g := (mkF m 92 #[.val (.ref a), .val (.ref d), .val (.ref sc), .val (.ref ms), .val (.ref sp), .val (.ref bl)] [(.ref d)])) rfl (hb hby d2_92)
    refine own_via (S' := T79.setTop (mkF m 95 #[.val (.ref a), .val (.ref d), .val (.ref sc), .val (.ref ms), .val (.ref sp), .val (.ref bl)] [(.ref wI), (.ref d)])) st79 ?_
    refine own_via (S' := T79.setTop (mkF m 98 #[.val (.ref a), .val (.ref d), .val (.ref sc), .val (.ref ms), .val (.ref sp), .val (.ref bl)] [])) (fun t k => Jvm.RoadKit.acmp (g := (mkF m 95 #[.val (.ref a), .val (.ref d), .val (.ref sc), .val (.ref ms), .val (.ref sp), .val (.ref bl)] [(.ref wI), (.ref d)])) X79 hx rfl rfl rfl (pc0 := 95) (pc' := 98) (same := false) rfl (hb hby d2_95) rfl (decide_eq_false fun q => hc47_53 (Value.ref.inj q)) (by decide) (by decide) k) ?_
    refine own_via (S' := T79.setTop (mkF m 99 #[.val (.ref a), .val (.ref d), .val (.ref sc), .val (.ref ms), .val (.ref sp), .val (.ref bl)] [(.ref ms)])) (fun t k => XS.aloadN X79.here hx rfl (hb hby d2_98) rfl rfl k) ?_
    have hzl : zl = (0 : Int32) := by rcases hcons with q | q; exact absurd q.1 hc47_53; exact q.2.2
    have cx81 : Fld Z h46 ms "java/lang/String" "value" "[B" (.ref tm) := (Fld.other W46 ((Fld.other W29 ((Fld.other W13 (f0_F_ms_value.ext E2) (Or.inl (Ne.symm ne_a_ms))).ext E18) (Or.inl (Ne.symm ne_a_ms))).ext E34) (Or.inl (Ne.symm ne_a_ms)))
    have cx82 : Arv Z h46 tm km .byte zl vsm (.int (0 : Int32)) := ((((((f0_A_tm.ext E2).other W13 (Ne.symm ne_a_tm)).ext E18).other W29 (Ne.symm ne_a_tm)).ext E34).other W46 (Ne.symm ne_a_tm))
    have cx83 : Exa Z h46 ms "java/lang/String" := (Exa.wr W46 cx43)
    obtain ⟨cq80, kq80, q80a, q80b, q80c⟩ := isOf hZ e79 cx83
    obtain ⟨_, _, ⟨T80, Lp80, kp80, np80⟩, -, X80, ⟨Lc80, hQ80, l80, y80, z80⟩, st80⟩ := X79.virtualBack hx (y := mt1) (z := mt1) hown (mvT hZ (wd49 hw)) (mvT hZ (wd50 hw)) (notFace_of_selects (args := #[]) (mvT hZ (wd52 hw))) (mvT hZ (wd52 hw)) (mvT hZ (wd51 hw)) (by decide) (backOf (W := 0) (own_empty l Z a0 hw [] ms tm km zl vsm h46 n0 O49 cx81 cx82) hZ (wd53 hw) (wd9 hw) (by decide) (by decide)) q80a q80c (g := (mkF m 99 #[.val (.ref a), .val (.ref d), .val (.ref sc), .val (.ref ms), .val (.ref sp), .val (.ref bl)] [(.ref ms)])) rfl (by rw [hml]; rfl) (Steps.refl _) (argsL := []) (rest := []) (lenOf pd___Z_171 rfl) rfl (by show 2 * 0 + _ ≤ _; exact Nat.le_of_eq rfl) (hb hby d2_99) (fun _ _ => ⟨rfl, e79, (by decide : 6 + 0 ≤ _), (by decide : 96 + 0 ≤ _)⟩)
    dsimp only [Pt.U, Pt.locs, Pt.cells, Pt.slots] at X80 l80 y80 z80 st80 hQ80
    subst Lp80 kp80 np80
    obtain ⟨z80, rfl, rfl, e80, hz80_0⟩ := hQ80
    try rw [List.append_nil] at X80
    refine own_tr (S' := T80.setTop (mkF m 102 #[.val (.ref a), .val (.ref d), .val (.ref sc), .val (.ref ms), .val (.ref sp), .val (.ref bl)] [(.int z80)])) st80 ?_
    obtain rfl : z80 = (1 : Int32) := hz80_0.trans (if_pos hzl)
    refine own_via (S' := T80.setTop (mkF m 123 #[.val (.ref a), .val (.ref d), .val (.ref sc), .val (.ref ms), .val (.ref sp), .val (.ref bl)] [])) (fun t k => XS.ifYes X80.here hx rfl (pc0 := 102) (pc' := 123) rfl (hb hby d2_102) rfl ((if0 _ _).trans (feq (by decide : ¬ ((1 : Int32) = (0 : Int32)))).2) (by decide) (by decide) k) ?_
    refine own_via (S' := T80.setTop (mkF m 124 #[.val (.ref a), .val (.ref d), .val (.ref sc), .val (.ref ms), .val (.ref sp), .val (.ref bl)] [(.ref a)])) (fun t k => XS.aloadN X80.here hx rfl (hb hby d2_123) rfl rfl k) ?_
    refine own_via (S' := T80.setTop (mkF m 126 #[.val (.ref a), .val (.ref d), .val (.ref sc), .val (.ref ms), .val (.ref sp), .val (.ref bl)] [(.ref sp), (.ref a)])) (fun t k => XS.aload X80.here hx rfl (hb hby d2_124) rfl rfl k) ?_
    have cx85 : Exa Z h46 a "com/example/object_access_rules/objectaccessrules/Result" := (Exa.wr W46 cx39)
    have cx86 : Fld Z h46 a "com/example/object_access_rules/objectaccessrules/Result" "step" "Ljava/lang/String;" .null := (Fld.other W46 ((Fld.other W29 ((Fld.other W13 (f0_F_a_step.ext E2) (Or.inr (slot_ne (Or.inr (wd56 hw)) (Or.inr (wd36 hw)) (by decide) (t := (.object "java/lang/String")) (t' := (.object "com/example/object_access_rules/objectaccessrules/Decision")) (by decide) (by decide)))).ext E18) (Or.inr (slot_ne (Or.inr (wd56 hw)) (Or.inr (wd41 hw)) (by decide) (t := (.object "java/lang/String")) (t' := (.object "com/example/object_access_rules/objectaccessrules/StatusCode")) (by decide) (by decide)))).ext E34) (Or.inr (slot_ne (Or.inr (wd56 hw)) (Or.inr (wd46 hw)) (by decide) (t := (.object "java/lang/String")) (t' := (.object "java/lang/String")) (by decide) (by decide))))
    obtain ⟨T87, h87, X87, e87, W87, st87⟩ := putF X80 hx hZ hown (host := "") (Or.inl (wd55 hw)) Via.refl e80 cx86 cx85 (Or.inr ⟨(wd56 hw), rfl, hnm⟩) (wd17 hw) (ty := (.object "java/lang/String")) (by decide) rfl rfl (g := (mkF m 126 #[.val (.ref a), .val (.ref d), .val (.ref sc), .val (.ref ms), .val (.ref sp), .val (.ref bl)] [(.ref sp), (.ref a)])) rfl rfl (hb hby d2_126)
    have sf87 : Safe Z own_EL T34.vm h46 a := (Safe.exa hZ.alike cx85 (by decide) (by decide))
    have sz88 : h46.size ≤ h87.size := Nat.le_of_eq W87.size.symm
    have R89 : CHr Z own_EL s.vm h0 T34.vm h87 := R48.trans (CHr.wr W87 sf87 R48.1)
    have O90 : Old Z n0 h87 := O49.wr W87 (by omega : n0 ≤ a)
    have N87 := Fr.snoc X87 N46 (by omega : n0 ≤ a)
    have K91 : Keep h0 h87 [a] := K50.wr W87 (Or.inl (List.mem_of_getElem? (i := 0) rfl))
    have Fw87 : Fld Z h87 a "com/example/object_access_rules/objectaccessrules/Result" "step" "Ljava/lang/String;" (.ref sp) := Fld.same W87 cx86
    refine own_via (S' := T87.setTop (mkF m 129 #[.val (.ref a), .val (.ref d), .val (.ref sc), .val (.ref ms), .val (.ref sp), .val (.ref bl)] [])) st87 ?_
    refine own_via (S' := T87.setTop (mkF m 130 #[.val (.ref a), .val (.ref d), .val (.ref sc), .val (.ref ms), .val (.ref sp), .val (.ref bl)] [(.ref a)])) (fun t k => XS.aloadN X87.here hx rfl (hb hby d2_129) rfl rfl k) ?_
    refine own_via (S' := T87.setTop (mkF m 132 #[.val (.ref a), .val (.ref d), .val (.ref sc), .val (.ref ms), .val (.ref sp), .val (.ref bl)] [(.ref bl), (.ref a)])) (fun t k => XS.aload X87.here hx rfl (hb hby d2_130) rfl rfl k) ?_
    have cx92 : Exa Z h87 a "com/example/object_access_rules/objectaccessrules/Result" := (Exa.wr W87 cx85)
    have cx93 : Fld Z h87 a "com/example/object_access_rules/objectaccessrules/Result" "below" "Lcom/example/object_access_rules/objectaccessrules/Result;" .null := (Fld.other W87 (Fld.other W46 ((Fld.other W29 ((Fld.other W13 (f0_F_a_below.ext E2) (Or.inr (slot_ne (Or.inr (wd58 hw)) (Or.inr (wd36 hw)) (by decide) (t := (.object "com/example/object_access_rules/objectaccessrules/Result")) (t' := (.object "com/example/object_access_rules/objectaccessrules/Decision")) (by decide) (by decide)))).ext E18) (Or.inr (slot_ne (Or.inr (wd58 hw)) (Or.inr (wd41 hw)) (by decide) (t := (.object "com/example/object_access_rules/objectaccessrules/Result")) (t' := (.object "com/example/object_access_rules/objectaccessrules/StatusCode")) (by decide) (by decide)))).ext E34) (Or.inr (slot_ne (Or.inr (wd58 hw)) (Or.inr (wd46 hw)) (by decide) (t := (.object "com/example/object_access_rules/objectaccessrules/Result")) (t' := (.object "java/lang/String")) (by decide) (by decide)))) (Or.inr (slot_ne (Or.inr (wd58 hw)) (Or.inr (wd56 hw)) (by decide) (t := (.object "com/example/object_access_rules/objectaccessrules/Result")) (t' := (.object "java/lang/String")) (by decide) (by decide))))
    obtain ⟨T94, h94, X94, e94, W94, st94⟩ := putF X87 hx hZ hown (host := "") (Or.inl (wd57 hw)) Via.refl e87 cx93 cx92 (Or.inr ⟨(wd58 hw), rfl, hnm⟩) (wd17 hw) (ty := (.object "com/example/object_access_rules/objectaccessrules/Result")) (by decide) rfl rfl (g := (mkF m 132 #[.val (.ref a), .val (.ref d), .val (.ref sc), .val (.ref ms), .val (.ref sp), .val (.ref bl)] [(.ref bl), (.ref a)])) rfl rfl (hb hby d2_132)
    have sf94 : Safe Z own_EL T34.vm h87 a := (Safe.exa hZ.alike cx92 (by decide) (by decide))
    have sz95 : h87.size ≤ h94.size := Nat.le_of_eq W94.size.symm
    have R96 : CHr Z own_EL s.vm h0 T34.vm h94 := R89.trans (CHr.wr W94 sf94 R89.1)
    have O97 : Old Z n0 h94 := O90.wr W94 (by omega : n0 ≤ a)
    have N94 := Fr.snoc X94 N87 (by omega : n0 ≤ a)
    have K98 : Keep h0 h94 [a] := K91.wr W94 (Or.inl (List.mem_of_getElem? (i := 0) rfl))
    have Fw94 : Fld Z h94 a "com/example/object_access_rules/objectaccessrules/Result" "below" "Lcom/example/object_access_rules/objectaccessrules/Result;" (.ref bl) := Fld.same W94 cx93
    refine own_via (S' := T94.setTop (mkF m 135 #[.val (.ref a), .val (.ref d), .val (.ref sc), .val (.ref ms), .val (.ref sp), .val (.ref bl)] [])) st94 ?_
    have cx99 : Fld Z h94 a "com/example/object_access_rules/objectaccessrules/Result" "decision" "Lcom/example/object_access_rules/objectaccessrules/Decision;" (.ref d) := (Fld.other W94 (Fld.other W87 (Fld.other W46 ((Fld.other W29 (Fw13.ext E18) (Or.inr (slot_ne (Or.inr (wd36 hw)) (Or.inr (wd41 hw)) (by decide) (t := (.object "com/example/object_access_rules/objectaccessrules/Decision")) (t' := (.object "com/example/object_access_rules/objectaccessrules/StatusCode")) (by decide) (by decide)))).ext E34) (Or.inr (slot_ne (Or.inr (wd36 hw)) (Or.inr (wd46 hw)) (by decide) (t := (.object "com/example/object_access_rules/objectaccessrules/Decision")) (t' := (.object "java/lang/String")) (by decide) (by decide)))) (Or.inr (slot_ne (Or.inr (wd36 hw)) (Or.inr (wd56 hw)) (by decide) (t := (.object "com/example/object_access_rules/objectaccessrules/Decision")) (t' := (.object "java/lang/String")) (by decide) (by decide)))) (Or.inr (slot_ne (Or.inr (wd36 hw)) (Or.inr (wd58 hw)) (by decide) (t := (.object "com/example/object_access_rules/objectaccessrules/Decision")) (t' := (.object "com/example/object_access_rules/objectaccessrules/Result")) (by decide) (by decide))))
    have cx100 : Fld Z h94 a "com/example/object_access_rules/objectaccessrules/Result" "status" "Lcom/example/object_access_rules/objectaccessrules/StatusCode;" (.ref sc) := (Fld.other W94 (Fld.other W87 (Fld.other W46 (Fw29.ext E34) (Or.inr (slot_ne (Or.inr (wd41 hw)) (Or.inr (wd46 hw)) (by decide) (t := (.object "com/example/object_access_rules/objectaccessrules/StatusCode")) (t' := (.object "java/lang/String")) (by decide) (by decide)))) (Or.inr (slot_ne (Or.inr (wd41 hw)) (Or.inr (wd56 hw)) (by decide) (t := (.object "com/example/object_access_rules/objectaccessrules/StatusCode")) (t' := (.object "java/lang/String")) (by decide) (by decide)))) (Or.inr (slot_ne (Or.inr (wd41 hw)) (Or.inr (wd58 hw)) (by decide) (t := (.object "com/example/object_access_rules/objectaccessrules/StatusCode")) (t' := (.object "com/example/object_access_rules/objectaccessrules/Result")) (by decide) (by decide))))
    have cx101 : Fld Z h94 a "com/example/object_access_rules/objectaccessrules/Result" "message" "Ljava/lang/String;" (.ref ms) := (Fld.other W94 (Fld.other W87 Fw46 (Or.inr (slot_ne (Or.inr (wd46 hw)) (Or.inr (wd56 hw)) (by decide) (t := (.object "java/lang/String")) (t' := (.object "java/lang/String")) (by decide) (by decide)))) (Or.inr (slot_ne (Or.inr (wd46 hw)) (Or.inr (wd58 hw)) (by decide) (t := (.object "java/lang/String")) (t' := (.object "com/example/object_access_rules/objectaccessrules/Result")) (by decide) (by decide))))
    have cx102 : Fld Z h94 a "com/example/object_access_rules/objectaccessrules/Result" "step" "Ljava/lang/String;" (.ref sp) := (Fld.other W94 Fw87 (Or.inr (slot_ne (Or.inr (wd56 hw)) (Or.inr (wd58 hw)) (by decide) (t := (.object "java/lang/String")) (t' := (.object "com/example/object_access_rules/objectaccessrules/Result")) (by decide) (by decide))))
    have RTR96 : CHr Z own_EL s.vm h0 T94.vm h94 := R96.trans (CHv.at X94 hZ hEL R96.1)
    have RXR96 : CHr Z own_EL s.vm s.heap T94.vm T94.heap := by rw [hh, e94]; exact RTR96
    refine own_retW (Q := Q_own_r5R Z a d sc ms sp bl tm km zl vsm wI wO h0 n0) (C := ({ frames := 1, cells := 6, slots := 96, locals := 14 } : Room).cells) (N := ({ frames := 1, cells := 6, slots := 96, locals := 14 } : Room).slots) X94 hS34 (by rw [e94]; omega) (v := none) (fun _ => rfl) Bd.notSynchronized ?_ RXR96 (by decide) (by decide) (fun fs hr => X94.returnOut hx Bd.returns (hb hby d2_135) hr)
    show Q_own_r5R Z a d sc ms sp bl tm km zl vsm wI wO h0 n0 _ T94.vm T94.heap _
    rw [e94]
    exact ⟨rfl, N94, K98, cx99, cx100, cx101, cx102, Fw94⟩
def Q_own_r3 (Z : State) (a : Addr) (d : Addr) (sc : Addr) (ms : Addr) (tm : Addr) (km : ClassId) (zl : Int32) (vsm : List Value) (wI : Addr) (wO : Addr) (h0 : Heap) (n0 : Nat) (v : Option Value) (vm : Vm) (h : Heap) (L : List Loc) : Prop := v = none ∧ Fr n0 L ∧ Keep h0 h [a] ∧ Fld Z h a "com/example/object_access_rules/objectaccessrules/Result" "decision" "Lcom/example/object_access_rules/objectaccessrules/Decision;" (.ref d) ∧ Fld Z h a "com/example/object_access_rules/objectaccessrules/Result" "status" "Lcom/example/object_access_rules/objectaccessrules/StatusCode;" (.ref sc) ∧ Fld Z h a "com/example/object_access_rules/objectaccessrules/Result" "message" "Ljava/lang/String;" (.ref ms) ∧ Fld Z h a "com/example/object_access_rules/objectaccessrules/Result" "step" "Ljava/lang/String;" .null ∧ Fld Z h a "com/example/object_access_rules/objectaccessrules/Result" "below" "Lcom/example/object_access_rules/objectaccessrules/Result;" .null
set_option maxRecDepth 65536 in
set_option maxHeartbeats 40000000 in
theorem own_r3 (l : Launch) (Z : State) (a0 : Array Value) (hw : ∀ d ∈ tables_1, d.before a0 Z = true) (ws : List Jvm.Cond) (a : Addr) (d : Addr) (sc : Addr) (ms : Addr) (tm : Addr) (km : ClassId) (zl : Int32) (vsm : List Value) (wI : Addr) (wO : Addr) (h0 : Heap) (n0 : Nat) (O0 : Old Z n0 h0) (zf_S_com_example_object_access_rules_objectaccessrules_Decision_INDETERMINATE : Sta Z Z.heap "com/example/object_access_rules/objectaccessrules/Decision" "INDETERMINATE" "Lcom/example/object_access_rules/objectaccessrules/Decision;" (.ref wI)) (zf_S_com_example_object_access_rules_objectaccessrules_StatusCode_OK : Sta Z Z.heap "com/example/object_access_rules/objectaccessrules/StatusCode" "OK" "Lcom/example/object_access_rules/objectaccessrules/StatusCode;" (.ref wO)) (f0_E_a : Exa Z h0 a "com/example/object_access_rules/objectaccessrules/Result") (f0_F_a_decision : Fld Z h0 a "com/example/object_access_rules/objectaccessrules/Result" "decision" "Lcom/example/object_access_rules/objectaccessrules/Decision;" .null) (f0_F_a_status : Fld Z h0 a "com/example/object_access_rules/objectaccessrules/Result" "status" "Lcom/example/object_access_rules/objectaccessrules/StatusCode;" .null) (f0_F_a_message : Fld Z h0 a "com/example/object_access_rules/objectaccessrules/Result" "message" "Ljava/lang/String;" .null) (f0_F_a_step : Fld Z h0 a "com/example/object_access_rules/objectaccessrules/Result" "step" "Ljava/lang/String;" .null) (f0_F_a_below : Fld Z h0 a "com/example/object_access_rules/objectaccessrules/Result" "below" "Lcom/example/object_access_rules/objectaccessrules/Result;" .null) (f0_E_d : Exa Z h0 d "com/example/object_access_rules/objectaccessrules/Decision") (f0_E_sc : Exa Z h0 sc "com/example/object_access_rules/objectaccessrules/StatusCode") (f0_E_ms : Exa Z h0 ms "java/lang/String") (f0_F_ms_value : Fld Z h0 ms "java/lang/String" "value" "[B" (.ref tm)) (f0_A_tm : Arv Z h0 tm km .byte zl vsm (.int (0 : Int32))) (g_a : n0 ≤ a) (hcons : (d = wI ∧ ¬ (sc = wO)) ∨ (¬ (d = wI) ∧ sc = wO ∧ zl = (0 : Int32))) :
    MetFree l mt3 (head1 (Jvm.Cond.code mt3 prog_37_method_1_code 4 none :: ws) ({ frames := 2, cells := 6, slots := 96, locals := 31 } : Room)) (fun aq U => aq = #[(.ref a), (.ref d), (.ref sc), (.ref ms)] ∧ Z.Warmed39 U.vm ∧ U.heap = h0 ∧ CHv Z own_EL U.vm h0 ∧ ∀ x ∈ ([] : List Addr), Safe Z own_EL U.vm h0 x) (fun _ _ _ _ _ => True) (fun _ U o U' => ∃ v L, o = .returned v ∧ Q_own_r3 Z a d sc ms tm km zl vsm wI wO h0 n0 v U'.vm U'.heap L ∧ CHr Z own_EL U.vm U.heap U'.vm U'.heap ∧ ReturnedEndW U o U' L ({ frames := 2, cells := 6, slots := 96, locals := 31 } : Room).cells ({ frames := 2, cells := 6, slots := 96, locals := 31 } : Room).slots) := by
  refine MetFree.of_bodySF (plainFor_of_name pn_com_example_object_access_rules_objectaccessrules_Result) hisR ?_
  intro p e s m args below meth c s₁ Bd hml0 hP hK
  obtain ⟨rfl, hZ, hh, hCH, hSL⟩ := hP
  have hx := Bd.exec
  have hby := Bd.bytes
  have hml : c.maxLocals = 4 := hml0
  have hown : s.vm.findClass "com/example/object_access_rules/objectaccessrules/Result" = some m.cls := findClass_of_methodNamed Bd.named
  have hnm := (name_of_methodNamed Bd.named Bd.method).1
  have X0 : Stand p l e ({ frames := 2, cells := 6, slots := 96, locals := 31 } : Room) (s.setVm s.vm) m #[(.ref a), (.ref d), (.ref sc), (.ref ms)] below meth c s₁ [] 0 0 := Stand.of_body Bd
  have e0 : s₁.heap = h0 := by rw [← hh, Bd.state]; rfl
  have N0 := Fr.nil n0
  have zO := O0.1
  have zO2 := O0.2.1
  have fl_E_a : h0.size > a := f0_E_a.lt
  have fl_F_a_decision : h0.size > a := f0_F_a_decision.lt
  have fl_F_a_status : h0.size > a := f0_F_a_status.lt
  have fl_F_a_message : h0.size > a := f0_F_a_message.lt
  have fl_F_a_step : h0.size > a := f0_F_a_step.lt
  have fl_F_a_below : h0.size > a := f0_F_a_below.lt
  have fl_E_d : h0.size > d := f0_E_d.lt
  have fl_E_sc : h0.size > sc := f0_E_sc.lt
  have fl_E_ms : h0.size > ms := f0_E_ms.lt
  have fl_F_ms_value : h0.size > ms := f0_F_ms_value.lt
  have fl_A_tm : h0.size > tm := f0_A_tm.lt
  refine own_open (own_via (S' := s₁.setTop (mkF m 0 #[.val (.ref a), .val (.ref d), .val (.ref sc), .val (.ref ms)] [])) (fun t k => castTop (ef_own_r3 m a d sc ms) k) ?_)
  have hEL := own_EW hw
  have hS0 : s.Since s.vm h0.size := (State.WarmedH.refl s).since _
  have R0 : CHr Z own_EL s.vm h0 s.vm h0 := CHr.refl hCH
  have K0 : Keep h0 h0 [a] := Keep.refl _ _
  have ne_a_d : a ≠ d := Exa.ne f0_E_a f0_E_d (by decide)
  have ne_a_sc : a ≠ sc := Exa.ne f0_E_a f0_E_sc (by decide)
  have ne_a_ms : a ≠ ms := Exa.ne f0_E_a f0_E_ms (by decide)
  have ne_a_tm : a ≠ tm := Exa.neArv f0_E_a f0_A_tm (wd17 hw)
  have ne_d_sc : d ≠ sc := Exa.ne f0_E_d f0_E_sc (by decide)
  have ne_d_ms : d ≠ ms := Exa.ne f0_E_d f0_E_ms (by decide)
  have ne_sc_ms : sc ≠ ms := Exa.ne f0_E_sc f0_E_ms (by decide)
  have ne_ms_tm : ms ≠ tm := Exa.neArv f0_E_ms f0_A_tm (wd10 hw)
  refine own_via (S' := s₁.setTop (mkF m 1 #[.val (.ref a), .val (.ref d), .val (.ref sc), .val (.ref ms)] [(.ref a)])) (fun t k => XS.aloadN X0.here hx rfl (hb hby d1_0) rfl rfl k) ?_
  refine own_via (S' := s₁.setTop (mkF m 2 #[.val (.ref a), .val (.ref d), .val (.ref sc), .val (.ref ms)] [(.ref d), (.ref a)])) (fun t k => XS.aloadN X0.here hx rfl (hb hby d1_1) rfl rfl k) ?_
  refine own_via (S' := s₁.setTop (mkF m 3 #[.val (.ref a), .val (.ref d), .val (.ref sc), .val (.ref ms)] [(.ref sc), (.ref d), (.ref a)])) (fun t k => XS.aloadN X0.here hx rfl (hb hby d1_2) rfl rfl k) ?_
  refine own_via (S' := s₁.setTop (mkF m 4 #[.val (.ref a), .val (.ref d), .val (.ref sc), .val (.ref ms)] [(.ref ms), (.ref sc), (.ref d), (.ref a)])) (fun t k => XS.aloadN X0.here hx rfl (hb hby d1_3) rfl rfl k) ?_
  refine own_via (S' := s₁.setTop (mkF m 5 #[.val (.ref a), .val (.ref d), .val (.ref sc), .val (.ref ms)] [.null, (.ref ms), (.ref sc), (.ref d), (.ref a)])) (fun t k => XS.aconstNull X0.here hx rfl (hb hby d1_4) k) ?_
  refine own_via (S' := s₁.setTop (mkF m 6 #[.val (.ref a), .val (.ref d), .val (.ref sc), .val (.ref ms)] [.null, .null, (.ref ms), (.ref sc), (.ref d), (.ref a)])) (fun t k => XS.aconstNull X0.here hx rfl (hb hby d1_5) k) ?_
  have hk1 : h0.size ≤ s₁.heap.size := by rw [e0]; omega
  obtain ⟨_, _, ⟨T1, Lp1, kp1, np1⟩, -, X1, hS1, hgr1, ⟨Lc1, ⟨hQ1, R1q⟩, l1, y1, z1⟩, st1⟩ := X0.specialBackS hx (y := mt2) rfl hown (mvT hZ (wd22 hw)) (mvT hZ (wd23 hw)) (mvT hZ (wd24 hw)) (by decide) (own_backW (SL := []) (W := 0) (own_r5N l Z a0 hw [] a d sc ms tm km zl vsm wI wO h0 n0 O0 zf_S_com_example_object_access_rules_objectaccessrules_Decision_INDETERMINATE zf_S_com_example_object_access_rules_objectaccessrules_StatusCode_OK f0_E_a f0_F_a_decision f0_F_a_status f0_F_a_message f0_F_a_step f0_F_a_below f0_E_d f0_E_sc f0_E_ms f0_F_ms_value f0_A_tm (by first | assumption | exact Ne.symm (by assumption) | omega | exact Nat.ne_of_lt (by omega) | exact Nat.ne_of_gt (by omega) | decide | exact Nat.le_of_ble_eq_true rfl) (by first | assumption | exact Ne.symm (by assumption) | omega | exact Nat.ne_of_lt (by omega) | exact Nat.ne_of_gt (by omega) | decide | exact Nat.le_of_ble_eq_true rfl)) hZ (wd24 hw) (wd18 hw) (by decide) (by decide) hEL R0.1 all0) (g := (mkF m 6 #[.val (.ref a), .val (.ref d), .val (.ref sc), .val (.ref ms)] [.null, .null, (.ref ms), (.ref sc), (.ref d), (.ref a)])) rfl (by rw [hml]; rfl) (Steps.refl _) (a := a) (argsL := [(.ref d), (.ref sc), (.ref ms), .null, .null]) (rest := []) (lenOf pd__Lcom_example_object_access_rules_objectaccessrules_Decision_Lcom_example_object_access_rules_objectaccessrules_StatusCode_Ljava_lang_String_Ljava_lang_String_Lcom_example_object_access_rules_objectaccessrules_Result__V_1701 rfl) rfl (by show 2 * 0 + _ ≤ _; exact Nat.le_of_eq rfl) (hb hby d1_6) (fun _ _ => ⟨rfl, e0, (by decide : 0 + 6 ≤ _), (by decide : 0 + 96 ≤ _)⟩)
  dsimp only [Pt.U, Pt.locs, Pt.cells, Pt.slots] at X1 l1 y1 z1 st1 hQ1 hS1 hgr1 R1q
  subst Lp1 kp1 np1
  obtain ⟨X1, hSn1, hZ, hown⟩ := rebS hS0 hk1 X1 hS1 hgr1 hZ hown
  obtain ⟨rfl, N1q, K1q, f1_0, f1_1, f1_2, f1_3, f1_4⟩ := hQ1
  have N1 := Fr.app N0 N1q
  have sz2 : h0.size ≤ T1.heap.size := K1q.1
  have R3 : CHr Z own_EL s.vm h0 T1.vm T1.heap := R0.trans R1q
  have O4 : Old Z n0 T1.heap := O0.keep K1q (allS (by omega : n0 ≤ a) all0)
  have K5 : Keep h0 T1.heap [a] := K0.trans K1q (allS (P := fun x => x ∈ [a] ∨ h0.size ≤ x) (Or.inl (List.mem_of_getElem? (i := 0) rfl)) all0)
  refine own_tr (S' := T1.setTop (mkF m 9 #[.val (.ref a), .val (.ref d), .val (.ref sc), .val (.ref ms)] [])) st1 ?_
  have RTR3 : CHr Z own_EL s.vm h0 T1.vm T1.heap := R3.trans (CHv.at X1 hZ hEL R3.1)
  have RXR3 : CHr Z own_EL s.vm s.heap T1.vm T1.heap := by rw [hh]; exact RTR3
  refine own_retW (Q := Q_own_r3 Z a d sc ms tm km zl vsm wI wO h0 n0) (C := ({ frames := 2, cells := 6, slots := 96, locals := 31 } : Room).cells) (N := ({ frames := 2, cells := 6, slots := 96, locals := 31 } : Room).slots) X1 hSn1 (by omega) (v := none) (fun _ => rfl) Bd.notSynchronized ?_ RXR3 (by decide) (by decide) (fun fs hr => X1.returnOut hx Bd.returns (hb hby d1_9) hr)
  show Q_own_r3 Z a d sc ms tm km zl vsm wI wO h0 n0 _ T1.vm T1.heap _
  exact ⟨rfl, N1, K5, f1_0, f1_1, f1_2, f1_3, f1_4⟩
def Q_own_canEnc (Z : State) (c1 : Int32) (h0 : Heap) (n0 : Nat) (v : Option Value) (h : Heap) (L : List Loc) : Prop := ∃ z : Int32, v = some (.int z) ∧ L = [] ∧ h = h0 ∧ (z = (if (255 : Int32) < c1 then (0 : Int32) else (1 : Int32)))
set_option maxRecDepth 65536 in
set_option maxHeartbeats 40000000 in
theorem own_canEnc (l : Launch) (Z : State) (a0 : Array Value) (hw : ∀ d ∈ tables_1, d.before a0 Z = true) (ws : List Jvm.Cond) (c1 : Int32) (h0 : Heap) (n0 : Nat) (O0 : Old Z n0 h0) :
    MetFree l mt4 (head1 (Jvm.Cond.code mt4 jdk_43_method_3_code 1 (some .boolean) :: ws) ({ frames := 0, cells := 0, slots := 0, locals := 0 } : Room)) (fun aq U => aq = #[(.int c1)] ∧ Z.Warmed39 U.vm ∧ U.heap = h0) (fun _ _ _ _ _ => True) (fun _ U o U' => ∃ v L, o = .returned v ∧ Q_own_canEnc Z c1 h0 n0 v U'.heap L ∧ FrameEnd U o U' L ({ frames := 0, cells := 0, slots := 0, locals := 0 } : Room).cells ({ frames := 0, cells := 0, slots := 0, locals := 0 } : Room).slots) := by
  refine MetFree.of_bodySF (plainFor_of_name pn_java_lang_StringLatin1) hisR ?_
  intro p e s m args below meth c s₁ Bd hml0 hP hK
  obtain ⟨rfl, hZ, hh⟩ := hP
  have hx := Bd.exec
  have hby := Bd.bytes
  have hml : c.maxLocals = 1 := hml0
  have hown : s.vm.findClass "java/lang/StringLatin1" = some m.cls := findClass_of_methodNamed Bd.named
  have hnm := (name_of_methodNamed Bd.named Bd.method).1
  have X0 : Stand p l e ({ frames := 0, cells := 0, slots := 0, locals := 0 } : Room) s m #[(.int c1)] below meth c s₁ [] 0 0 := Stand.of_body Bd
  have e0 : s₁.heap = h0 := by rw [← hh, Bd.state]; rfl
  have N0 := Fr.nil n0
  have zO := O0.1
  have zO2 := O0.2.1
  refine own_open (own_via (S' := s₁.setTop (mkF m 0 #[.val (.int c1)] [])) (fun t k => castTop (ef_own_canEnc m c1) k) ?_)
  refine own_via (S' := s₁.setTop (mkF m 1 #[.val (.int c1)] [(.int c1)])) (fun t k => XS.iloadN X0.here hx rfl (hb hby d7_0) rfl k) ?_
  refine own_via (S' := s₁.setTop (mkF m 4 #[.val (.int c1)] [(.int (255 : Int32)), (.int c1)])) (fun t k => XS.sipush X0.here hx rfl (hb hby d7_1) k) ?_
  by_cases hc4_1 : (255 : Int32) < c1
  · -- yes
    refine own_via (S' := s₁.setTop (mkF m 11 #[.val (.int c1)] [])) (fun t k => XS.icmpYes X0.here hx rfl (pc0 := 4) (pc' := 11) rfl (hb hby d7_4) rfl (tlt hc4_1).2.2.1 (by decide) (by decide) k) ?_
    refine own_via (S' := s₁.setTop (mkF m 12 #[.val (.int c1)] [(.int (0 : Int32))])) (fun t k => XS.iconst X0.here hx rfl (hb hby d7_11) k) ?_
    refine own_ret (Q := Q_own_canEnc Z c1 h0 n0) (C := ({ frames := 0, cells := 0, slots := 0, locals := 0 } : Room).cells) (N := ({ frames := 0, cells := 0, slots := 0, locals := 0 } : Room).slots) X0 (v := some (.int (0 : Int32))) (fun h => by rw [Bd.returns] at h; cases h) Bd.notSynchronized ?_ (by decide) (by decide) (fun fs hr => retN X0 hx (t := .boolean) Bd.returns (by simp) (hb hby d7_12) hr)
    show Q_own_canEnc Z c1 h0 n0 _ s₁.heap _
    rw [e0]
    exact ⟨(0 : Int32), rfl, rfl, rfl, ((if_pos hc4_1)).symm⟩
  · -- no
    refine own_via (S' := s₁.setTop (mkF m 7 #[.val (.int c1)] [])) (fun t k => XS.icmpNo X0.here hx rfl (hb hby d7_4) rfl (flt hc4_1).2.2.1 k) ?_
    refine own_via (S' := s₁.setTop (mkF m 8 #[.val (.int c1)] [(.int (1 : Int32))])) (fun t k => XS.iconst X0.here hx rfl (hb hby d7_7) k) ?_
    refine own_via (S' := s₁.setTop (mkF m 12 #[.val (.int c1)] [(.int (1 : Int32))])) (fun t k => XS.goto X0.here hx rfl (pc0 := 8) (pc' := 12) rfl (hb hby d7_8) (by decide) (by decide) k) ?_
    refine own_ret (Q := Q_own_canEnc Z c1 h0 n0) (C := ({ frames := 0, cells := 0, slots := 0, locals := 0 } : Room).cells) (N := ({ frames := 0, cells := 0, slots := 0, locals := 0 } : Room).slots) X0 (v := some (.int (1 : Int32))) (fun h => by rw [Bd.returns] at h; cases h) Bd.notSynchronized ?_ (by decide) (by decide) (fun fs hr => retN X0 hx (t := .boolean) Bd.returns (by simp) (hb hby d7_12) hr)
    show Q_own_canEnc Z c1 h0 n0 _ s₁.heap _
    rw [e0]
    exact ⟨(1 : Int32), rfl, rfl, rfl, ((if_neg hc4_1)).symm⟩
def Q_own_toBytes (Z : State) (c1 : Int32) (h0 : Heap) (n0 : Nat) (v : Option Value) (h : Heap) (L : List Loc) : Prop := ∃ b : Addr, ∃ kb : ClassId, v = some (.ref b) ∧ Fr n0 L ∧ Keep h0 h [] ∧ Arv Z h b kb .byte (1 : Int32) [(.int (nar .byte (c1.toInt8.toInt32)))] (.int (0 : Int32))
set_option maxRecDepth 65536 in
set_option maxHeartbeats 40000000 in
theorem own_toBytes (l : Launch) (Z : State) (a0 : Array Value) (hw : ∀ d ∈ tables_1, d.before a0 Z = true) (ws : List Jvm.Cond) (c1 : Int32) (h0 : Heap) (n0 : Nat) (O0 : Old Z n0 h0) :
    MetFree l mt5 (head1 (Jvm.Cond.code mt5 jdk_43_method_46_code 1 (some (.array .byte)) :: ws) ({ frames := 0, cells := 1, slots := 1, locals := 0 } : Room)) (fun aq U => aq = #[(.int c1)] ∧ Z.Warmed39 U.vm ∧ U.heap = h0) (fun _ _ _ _ _ => True) (fun _ U o U' => ∃ v L, o = .returned v ∧ Q_own_toBytes Z c1 h0 n0 v U'.heap L ∧ FrameEnd U o U' L ({ frames := 0, cells := 1, slots := 1, locals := 0 } : Room).cells ({ frames := 0, cells := 1, slots := 1, locals := 0 } : Room).slots) := by
  refine MetFree.of_bodySF (plainFor_of_name pn_java_lang_StringLatin1) hisR ?_
  intro p e s m args below meth c s₁ Bd hml0 hP hK
  obtain ⟨rfl, hZ, hh⟩ := hP
  have hx := Bd.exec
  have hby := Bd.bytes
  have hml : c.maxLocals = 1 := hml0
  have hown : s.vm.findClass "java/lang/StringLatin1" = some m.cls := findClass_of_methodNamed Bd.named
  have hnm := (name_of_methodNamed Bd.named Bd.method).1
  have X0 : Stand p l e ({ frames := 0, cells := 1, slots := 1, locals := 0 } : Room) s m #[(.int c1)] below meth c s₁ [] 0 0 := Stand.of_body Bd
  have e0 : s₁.heap = h0 := by rw [← hh, Bd.state]; rfl
  have N0 := Fr.nil n0
  have zO := O0.1
  have zO2 := O0.2.1
  refine own_open (own_via (S' := s₁.setTop (mkF m 0 #[.val (.int c1)] [])) (fun t k => castTop (ef_own_toBytes m c1) k) ?_)
  have K0 : Keep h0 h0 [] := Keep.refl _ _
  refine own_via (S' := s₁.setTop (mkF m 1 #[.val (.int c1)] [(.int (1 : Int32))])) (fun t k => XS.iconst X0.here hx rfl (hb hby d8_0) k) ?_
  obtain ⟨T1, h1, k1, X1, e1, E1, A1, st1⟩ := newP (aty := .byte) X0 hx hZ (wd11 hw) e0 (g := (mkF m 1 #[.val (.int c1)] [(.int (1 : Int32))])) rfl (hb hby d8_1) rfl (by decide : ¬ ((1 : Int32) < (0 : Int32))) (cap := 1) (by decide) (by decide) (by decide) (by decide)
  obtain ⟨b1, g1⟩ : ∃ z, z = h0.size := ⟨_, rfl⟩
  rw [← g1] at A1 st1
  have lt_b1 : h1.size > b1 := A1.lt
  have sz2 : h0.size ≤ h1.size := E1.1
  have O3 : Old Z n0 h1 := O0.ext E1
  have K4 : Keep h0 h1 [] := K0.ext E1
  have V1 : Arv Z h1 b1 k1 .byte (1 : Int32) [(.int (0 : Int32))] (.int (0 : Int32)) := (Arv.new A1 (by decide)).pad (pad_rep [] (.int (0 : Int32)) 1)
  refine own_via (S' := T1.setTop (mkF m 3 #[.val (.int c1)] [(.ref b1)])) st1 ?_
  refine own_via (S' := T1.setTop (mkF m 4 #[.val (.int c1)] [(.ref b1), (.ref b1)])) (fun t k => XS.dup X1.here hx rfl (hb hby d8_3) rfl rfl k) ?_
  refine own_via (S' := T1.setTop (mkF m 5 #[.val (.int c1)] [(.int (0 : Int32)), (.ref b1), (.ref b1)])) (fun t k => XS.iconst X1.here hx rfl (hb hby d8_4) k) ?_
  refine own_via (S' := T1.setTop (mkF m 6 #[.val (.int c1)] [(.int c1), (.int (0 : Int32)), (.ref b1), (.ref b1)])) (fun t k => XS.iloadN X1.here hx rfl (hb hby d8_5) rfl k) ?_
  refine own_via (S' := T1.setTop (mkF m 7 #[.val (.int c1)] [(.int (c1.toInt8.toInt32)), (.int (0 : Int32)), (.ref b1), (.ref b1)])) (fun t k => XS.i2b X1.here hx rfl (hb hby d8_6) rfl k) ?_
  obtain ⟨cl5, Ar5, q5, S5, M5, H5, U5⟩ := id V1
  obtain ⟨T5, h5, X5, e5, W5, st5⟩ := stB X1 hx hZ e1 Ar5 (j := (0 : Int32)) (inb_of S5 ⟨by decide, by decide⟩) (g := (mkF m 7 #[.val (.int c1)] [(.int (c1.toInt8.toInt32)), (.int (0 : Int32)), (.ref b1), (.ref b1)])) rfl rfl (hb hby d8_7)
  have sz6 : h1.size ≤ h5.size := Nat.le_of_eq W5.size.symm
  have O7 : Old Z n0 h5 := O3.wr W5 (by omega : n0 ≤ b1)
  have N5 := Fr.snoc X5 N0 (by omega : n0 ≤ b1)
  have K8 : Keep h0 h5 [] := K4.wr W5 (Or.inr (by omega : h0.size ≤ b1))
  have V5 : Arv Z h5 b1 k1 .byte (1 : Int32) [(.int (nar .byte (c1.toInt8.toInt32)))] (.int (0 : Int32)) := Arv.set Ar5 q5 S5 M5 H5 U5 (fits_nar_byte _) W5 0 rfl (Nat.le_of_ble_eq_true rfl)
  refine own_via (S' := T5.setTop (mkF m 8 #[.val (.int c1)] [(.ref b1)])) st5 ?_
  refine own_ret (Q := Q_own_toBytes Z c1 h0 n0) (C := ({ frames := 0, cells := 1, slots := 1, locals := 0 } : Room).cells) (N := ({ frames := 0, cells := 1, slots := 1, locals := 0 } : Room).slots) X5 (v := some (.ref b1)) (fun h => by rw [Bd.returns] at h; cases h) Bd.notSynchronized ?_ (by decide) (by decide) (fun fs hr => retOut X5 hx Bd.returns rfl (Or.inr (Or.inr (Or.inr (Or.inr ⟨rfl, rfl, rfl⟩)))) (hb hby d8_8) hr)
  show Q_own_toBytes Z c1 h0 n0 _ T5.heap _
  rw [e5]
  exact ⟨b1, k1, rfl, N5, K8, V5⟩
def Q_own_strBB (Z : State) (a : Addr) (tb : Addr) (h0 : Heap) (n0 : Nat) (v : Option Value) (h : Heap) (L : List Loc) : Prop := v = none ∧ Fr n0 L ∧ Keep h0 h [a] ∧ Fld Z h a "java/lang/String" "value" "[B" (.ref tb) ∧ Fld Z h a "java/lang/String" "coder" "B" (.int (0 : Int32))
set_option maxRecDepth 65536 in
set_option maxHeartbeats 40000000 in
theorem own_strBB (l : Launch) (Z : State) (a0 : Array Value) (hw : ∀ d ∈ tables_1, d.before a0 Z = true) (ws : List Jvm.Cond) (a : Addr) (tb : Addr) (h0 : Heap) (n0 : Nat) (O0 : Old Z n0 h0) (f0_E_a : Exa Z h0 a "java/lang/String") (f0_F_a_value : Fld Z h0 a "java/lang/String" "value" "[B" .null) (f0_F_a_coder : Fld Z h0 a "java/lang/String" "coder" "B" (.int (0 : Int32))) (g_a : n0 ≤ a) :
    MetFree l mt6 (head1 (Jvm.Cond.code mt6 jdk_42_method_151_code 3 none :: ws) ({ frames := 1, cells := 0, slots := 0, locals := 12 } : Room)) (fun aq U => aq = #[(.ref a), (.ref tb), (.int (0 : Int32))] ∧ Z.Warmed39 U.vm ∧ U.heap = h0) (fun _ _ _ _ _ => True) (fun _ U o U' => ∃ v L, o = .returned v ∧ Q_own_strBB Z a tb h0 n0 v U'.heap L ∧ FrameEnd U o U' L ({ frames := 1, cells := 0, slots := 0, locals := 12 } : Room).cells ({ frames := 1, cells := 0, slots := 0, locals := 12 } : Room).slots) := by
  refine MetFree.of_bodySF (plainFor_of_name pn_java_lang_String) hisR ?_
  intro p e s m args below meth c s₁ Bd hml0 hP hK
  obtain ⟨rfl, hZ, hh⟩ := hP
  have hx := Bd.exec
  have hby := Bd.bytes
  have hml : c.maxLocals = 3 := hml0
  have hown : s.vm.findClass "java/lang/String" = some m.cls := findClass_of_methodNamed Bd.named
  have hnm := (name_of_methodNamed Bd.named Bd.method).1
  have X0 : Stand p l e ({ frames := 1, cells := 0, slots := 0, locals := 12 } : Room) s m #[(.ref a), (.ref tb), (.int (0 : Int32))] below meth c s₁ [] 0 0 := Stand.of_body Bd
  have e0 : s₁.heap = h0 := by rw [← hh, Bd.state]; rfl
  have N0 := Fr.nil n0
  have zO := O0.1
  have zO2 := O0.2.1
  have fl_E_a : h0.size > a := f0_E_a.lt
  have fl_F_a_value : h0.size > a := f0_F_a_value.lt
  have fl_F_a_coder : h0.size > a := f0_F_a_coder.lt
  refine own_open (own_via (S' := s₁.setTop (mkF m 0 #[.val (.ref a), .val (.ref tb), .val (.int (0 : Int32))] [])) (fun t k => castTop (ef_own_strBB m a tb (0 : Int32)) k) ?_)
  have K0 : Keep h0 h0 [a] := Keep.refl _ _
  refine own_via (S' := s₁.setTop (mkF m 1 #[.val (.ref a), .val (.ref tb), .val (.int (0 : Int32))] [(.ref a)])) (fun t k => XS.aloadN X0.here hx rfl (hb hby d9_0) rfl rfl k) ?_
  obtain ⟨T1, X1, e1, st1⟩ := initO X0 hx hZ hown (wd74 hw) (wd26 hw) (wd27 hw) e0 (g := (mkF m 1 #[.val (.ref a), .val (.ref tb), .val (.int (0 : Int32))] [(.ref a)])) rfl (by rw [hml]; rfl) rfl (hb hby d9_1) (by decide) (W := 0) (by show 2 * 0 + _ ≤ _; exact Nat.le_of_eq rfl) (by decide)
  refine own_via (S' := T1.setTop (mkF m 4 #[.val (.ref a), .val (.ref tb), .val (.int (0 : Int32))] [])) st1 ?_
  refine own_via (S' := T1.setTop (mkF m 5 #[.val (.ref a), .val (.ref tb), .val (.int (0 : Int32))] [(.ref a)])) (fun t k => XS.aloadN X1.here hx rfl (hb hby d9_4) rfl rfl k) ?_
  refine own_via (S' := T1.setTop (mkF m 6 #[.val (.ref a), .val (.ref tb), .val (.int (0 : Int32))] [(.ref tb), (.ref a)])) (fun t k => XS.aloadN X1.here hx rfl (hb hby d9_5) rfl rfl k) ?_
  obtain ⟨T2, h2, X2, e2, W2, st2⟩ := putF X1 hx hZ hown (host := "") (Or.inl (wd54 hw)) Via.refl e1 f0_F_a_value f0_E_a (Or.inr ⟨(wd12 hw), rfl, hnm⟩) (wd10 hw) (ty := (.array .byte)) (by decide) rfl rfl (g := (mkF m 6 #[.val (.ref a), .val (.ref tb), .val (.int (0 : Int32))] [(.ref tb), (.ref a)])) rfl rfl (hb hby d9_6)
  have sz3 : h0.size ≤ h2.size := Nat.le_of_eq W2.size.symm
  have O4 : Old Z n0 h2 := O0.wr W2 (by omega : n0 ≤ a)
  have N2 := Fr.snoc X2 N0 (by omega : n0 ≤ a)
  have K5 : Keep h0 h2 [a] := K0.wr W2 (Or.inl (List.mem_of_getElem? (i := 0) rfl))
  have Fw2 : Fld Z h2 a "java/lang/String" "value" "[B" (.ref tb) := Fld.same W2 f0_F_a_value
  refine own_via (S' := T2.setTop (mkF m 9 #[.val (.ref a), .val (.ref tb), .val (.int (0 : Int32))] [])) st2 ?_
  refine own_via (S' := T2.setTop (mkF m 10 #[.val (.ref a), .val (.ref tb), .val (.int (0 : Int32))] [(.ref a)])) (fun t k => XS.aloadN X2.here hx rfl (hb hby d9_9) rfl rfl k) ?_
  refine own_via (S' := T2.setTop (mkF m 11 #[.val (.ref a), .val (.ref tb), .val (.int (0 : Int32))] [(.int (0 : Int32)), (.ref a)])) (fun t k => XS.iloadN X2.here hx rfl (hb hby d9_10) rfl k) ?_
  have cx6 : Exa Z h2 a "java/lang/String" := (Exa.wr W2 f0_E_a)
  have cx7 : Fld Z h2 a "java/lang/String" "coder" "B" (.int (0 : Int32)) := (Fld.other W2 f0_F_a_coder (Or.inr (slot_ne (Or.inr (wd13 hw)) (Or.inr (wd12 hw)) (by decide) (t := .byte) (t' := (.array .byte)) (by decide) (by decide))))
  obtain ⟨T8, h8, X8, e8, W8, st8⟩ := putFN X2 hx hZ hown (wd75 hw) Via.refl e2 cx7 cx6 (Or.inr ⟨(wd13 hw), rfl, hnm⟩) (wd10 hw) (ty := .byte) (v' := (.int (0 : Int32))) (by decide) rfl rfl (g := (mkF m 11 #[.val (.ref a), .val (.ref tb), .val (.int (0 : Int32))] [(.int (0 : Int32)), (.ref a)])) rfl rfl (hb hby d9_11)
  have sz9 : h2.size ≤ h8.size := Nat.le_of_eq W8.size.symm
  have O10 : Old Z n0 h8 := O4.wr W8 (by omega : n0 ≤ a)
  have N8 := Fr.snoc X8 N2 (by omega : n0 ≤ a)
  have K11 : Keep h0 h8 [a] := K5.wr W8 (Or.inl (List.mem_of_getElem? (i := 0) rfl))
  have Fw8 : Fld Z h8 a "java/lang/String" "coder" "B" (.int (0 : Int32)) := Fld.same W8 cx7
  refine own_via (S' := T8.setTop (mkF m 14 #[.val (.ref a), .val (.ref tb), .val (.int (0 : Int32))] [])) st8 ?_
  have cx12 : Fld Z h8 a "java/lang/String" "value" "[B" (.ref tb) := (Fld.other W8 Fw2 (Or.inr (slot_ne (Or.inr (wd12 hw)) (Or.inr (wd13 hw)) (by decide) (t := (.array .byte)) (t' := .byte) (by decide) (by decide))))
  refine own_ret (Q := Q_own_strBB Z a tb h0 n0) (C := ({ frames := 1, cells := 0, slots := 0, locals := 12 } : Room).cells) (N := ({ frames := 1, cells := 0, slots := 0, locals := 12 } : Room).slots) X8 (v := none) (fun _ => rfl) Bd.notSynchronized ?_ (by decide) (by decide) (fun fs hr => X8.returnOut hx Bd.returns (hb hby d9_14) hr)
  show Q_own_strBB Z a tb h0 n0 _ T8.heap _
  rw [e8]
  exact ⟨rfl, N8, K11, cx12, Fw8⟩
def Q_own_valueOf (Z : State) (c1 : Int32) (zc : Int32) (h0 : Heap) (n0 : Nat) (v : Option Value) (h : Heap) (L : List Loc) : Prop := ∃ b : Addr, v = some (.ref b) ∧ Fr n0 L ∧ Keep h0 h [] ∧ Exa Z h b "java/lang/String"
set_option maxRecDepth 65536 in
set_option maxHeartbeats 40000000 in
theorem own_valueOf (l : Launch) (Z : State) (a0 : Array Value) (hw : ∀ d ∈ tables_1, d.before a0 Z = true) (ws : List Jvm.Cond) (c1 : Int32) (zc : Int32) (h0 : Heap) (n0 : Nat) (O0 : Old Z n0 h0) (zf_S_java_lang_String_COMPACT_STRINGS : Sta Z Z.heap "java/lang/String" "COMPACT_STRINGS" "Z" (.int zc)) (hzc : ¬ (zc = (0 : Int32))) (rng : ¬ c1 < 0 ∧ ¬ (255 : Int32) < c1) :
    MetFree l mt7 (head1 (Jvm.Cond.code mt7 jdk_42_method_139_code 1 (some (.object "java/lang/String")) :: ws) ({ frames := 2, cells := 2, slots := 5, locals := 27 } : Room)) (fun aq U => aq = #[(.int c1)] ∧ Z.Warmed39 U.vm ∧ U.heap = h0) (fun _ _ _ _ _ => True) (fun _ U o U' => ∃ v L, o = .returned v ∧ Q_own_valueOf Z c1 zc h0 n0 v U'.heap L ∧ FrameEnd U o U' L ({ frames := 2, cells := 2, slots := 5, locals := 27 } : Room).cells ({ frames := 2, cells := 2, slots := 5, locals := 27 } : Room).slots) := by
  refine MetFree.of_bodySF (plainFor_of_name pn_java_lang_String) hisR ?_
  intro p e s m args below meth c s₁ Bd hml0 hP hK
  obtain ⟨rfl, hZ, hh⟩ := hP
  have hx := Bd.exec
  have hby := Bd.bytes
  have hml : c.maxLocals = 1 := hml0
  have hown : s.vm.findClass "java/lang/String" = some m.cls := findClass_of_methodNamed Bd.named
  have hnm := (name_of_methodNamed Bd.named Bd.method).1
  have X0 : Stand p l e ({ frames := 2, cells := 2, slots := 5, locals := 27 } : Room) s m #[(.int c1)] below meth c s₁ [] 0 0 := Stand.of_body Bd
  have e0 : s₁.heap = h0 := by rw [← hh, Bd.state]; rfl
  have N0 := Fr.nil n0
  have zO := O0.1
  have zO2 := O0.2.1
  refine own_open (own_via (S' := s₁.setTop (mkF m 0 #[.val (.int c1)] [])) (fun t k => castTop (ef_own_valueOf m c1) k) ?_)
  have K0 : Keep h0 h0 [] := Keep.refl _ _
  have cx1 : Sta Z h0 "java/lang/String" "COMPACT_STRINGS" "Z" (.int zc) := zf_S_java_lang_String_COMPACT_STRINGS.ext O0.2
  obtain ⟨T2, X2, e2, st2⟩ := getS2 X0 hx hZ hown (host := "") (Or.inl (wd62 hw)) Via.refl e0 cx1 (g := (mkF m 0 #[.val (.int c1)] [])) rfl (hb hby d6_0)
  refine own_via (S' := T2.setTop (mkF m 3 #[.val (.int c1)] [(.int zc)])) st2 ?_
  refine own_via (S' := T2.setTop (mkF m 6 #[.val (.int c1)] [])) (fun t k => XS.ifNo X2.here hx rfl (hb hby d6_3) rfl ((if0 _ _).trans (feq hzc).1) k) ?_
  refine own_via (S' := T2.setTop (mkF m 7 #[.val (.int c1)] [(.int c1)])) (fun t k => XS.iloadN X2.here hx rfl (hb hby d6_6) rfl k) ?_
  obtain ⟨_, _, ⟨T3, Lp3, kp3, np3⟩, -, X3, ⟨Lc3, hQ3, l3, y3, z3⟩, st3⟩ := Jvm.LawKit.callS X2 hx (y := mt4) hown (mvT hZ (wd63 hw)) (mvT hZ (wd64 hw)) (mvT hZ (wd65 hw)) (mvT hZ (wd66 hw)) (by decide) (backOf (W := 0) (own_canEnc l Z a0 hw [] c1 h0 n0 O0) hZ (wd66 hw) (wd65 hw) (by decide) (by decide)) (g := (mkF m 7 #[.val (.int c1)] [(.int c1)])) rfl (by rw [hml]; rfl) (argsL := [(.int c1)]) (rest := []) (lenOf pd__C_Z_238 rfl) rfl (by show 2 * 0 + _ ≤ _; exact Nat.le_of_eq rfl) (hb hby d6_7) (fun _ _ => ⟨rfl, e2, (by decide : 0 + 0 ≤ _), (by decide : 0 + 0 ≤ _)⟩)
  dsimp only [Pt.U, Pt.locs, Pt.cells, Pt.slots] at X3 l3 y3 z3 st3 hQ3
  subst Lp3 kp3 np3
  obtain ⟨z3, rfl, rfl, e3, hz3_0⟩ := hQ3
  try rw [List.append_nil] at X3
  refine own_via (S' := T3.setTop (mkF m 10 #[.val (.int c1)] [(.int z3)])) st3 ?_
  obtain rfl : z3 = (1 : Int32) := hz3_0.trans (if_neg rng.2)
  refine own_via (S' := T3.setTop (mkF m 13 #[.val (.int c1)] [])) (fun t k => XS.ifNo X3.here hx rfl (hb hby d6_10) rfl ((if0 _ _).trans (feq (by decide : ¬ ((1 : Int32) = (0 : Int32)))).1) k) ?_
  obtain ⟨T5, h5, X5, e5, E5, A5, D5, -, st5⟩ := newO X3 hx hZ hown (wd67 hw) (wd10 hw) (wd9 hw) e3 (g := (mkF m 13 #[.val (.int c1)] [])) rfl (hb hby d6_13) (by decide) (by decide)
  obtain ⟨b5, g5⟩ : ∃ z, z = h0.size := ⟨_, rfl⟩
  rw [← g5] at A5 D5 st5
  have lt_b5 : h5.size > b5 := A5.lt
  have sz6 : h0.size ≤ h5.size := E5.1
  have O7 : Old Z n0 h5 := O0.ext E5
  have K8 : Keep h0 h5 [] := K0.ext E5
  have F5_value : Fld Z h5 b5 "java/lang/String" "value" "[B" .null := D5 (Or.inr (wd12 hw)) (ty := (.array .byte)) (by decide)
  have F5_coder : Fld Z h5 b5 "java/lang/String" "coder" "B" (.int (0 : Int32)) := D5 (Or.inr (wd13 hw)) (ty := .byte) (by decide)
  refine own_via (S' := T5.setTop (mkF m 16 #[.val (.int c1)] [(.ref b5)])) st5 ?_
  refine own_via (S' := T5.setTop (mkF m 17 #[.val (.int c1)] [(.ref b5), (.ref b5)])) (fun t k => XS.dup X5.here hx rfl (hb hby d6_16) rfl rfl k) ?_
  refine own_via (S' := T5.setTop (mkF m 18 #[.val (.int c1)] [(.int c1), (.ref b5), (.ref b5)])) (fun t k => XS.iloadN X5.here hx rfl (hb hby d6_17) rfl k) ?_
  obtain ⟨_, _, ⟨T9, Lp9, kp9, np9⟩, -, X9, ⟨Lc9, hQ9, l9, y9, z9⟩, st9⟩ := Jvm.LawKit.callS X5 hx (y := mt5) hown (mvT hZ (wd68 hw)) (mvT hZ (wd69 hw)) (mvT hZ (wd65 hw)) (mvT hZ (wd70 hw)) (by decide) (backOf (W := 2) (own_toBytes l Z a0 hw [] c1 h5 n0 O7) hZ (wd70 hw) (wd65 hw) (by decide) (by decide)) (g := (mkF m 18 #[.val (.int c1)] [(.int c1), (.ref b5), (.ref b5)])) rfl (by rw [hml]; rfl) (argsL := [(.int c1)]) (rest := [(.ref b5), (.ref b5)]) (lenOf pd__C__B_305 rfl) rfl (by show 2 * 0 + _ ≤ _; exact Nat.le_of_eq rfl) (hb hby d6_18) (fun _ _ => ⟨rfl, e5, (by decide : 1 + 1 ≤ _), (by decide : 4 + 1 ≤ _)⟩)
  dsimp only [Pt.U, Pt.locs, Pt.cells, Pt.slots] at X9 l9 y9 z9 st9 hQ9
  subst Lp9 kp9 np9
  obtain ⟨b9, kb9, rfl, N9q, K9q, f9_0⟩ := hQ9
  have N9 := Fr.app N0 N9q
  have sz10 : h5.size ≤ T9.heap.size := K9q.1
  have O11 : Old Z n0 T9.heap := O7.keep K9q all0
  have K12 : Keep h0 T9.heap [] := K8.trans K9q all0
  have lt13_b9 : T9.heap.size > b9 := f9_0.lt
  refine own_via (S' := T9.setTop (mkF m 21 #[.val (.int c1)] [(.ref b9), (.ref b5), (.ref b5)])) st9 ?_
  refine own_via (S' := T9.setTop (mkF m 22 #[.val (.int c1)] [(.int (0 : Int32)), (.ref b9), (.ref b5), (.ref b5)])) (fun t k => XS.iconst X9.here hx rfl (hb hby d6_21) k) ?_
  have cx15 : Exa Z T9.heap b5 "java/lang/String" := (A5.keep K9q)
  have cx16 : Fld Z T9.heap b5 "java/lang/String" "value" "[B" .null := (F5_value.keep K9q nin0)
  have cx17 : Fld Z T9.heap b5 "java/lang/String" "coder" "B" (.int (0 : Int32)) := (F5_coder.keep K9q nin0)
  obtain ⟨_, _, ⟨T14, Lp14, kp14, np14⟩, -, X14, ⟨Lc14, hQ14, l14, y14, z14⟩, st14⟩ := X9.specialBack hx (y := mt6) rfl hown (mvT hZ (wd71 hw)) (mvT hZ (wd72 hw)) (mvT hZ (wd73 hw)) (by decide) (backOf (W := 1) (own_strBB l Z a0 hw [] b5 b9 T9.heap n0 O11 cx15 cx16 cx17 (by first | assumption | exact Ne.symm (by assumption) | omega | exact Nat.ne_of_lt (by omega) | exact Nat.ne_of_gt (by omega) | decide | exact Nat.le_of_ble_eq_true rfl)) hZ (wd73 hw) (wd9 hw) (by decide) (by decide)) (g := (mkF m 22 #[.val (.int c1)] [(.int (0 : Int32)), (.ref b9), (.ref b5), (.ref b5)])) rfl (by rw [hml]; rfl) (Steps.refl _) (a := b5) (argsL := [(.ref b9), (.int (0 : Int32))]) (rest := [(.ref b5)]) (lenOf pd___BB_V_390 rfl) rfl (by show 2 * 0 + _ ≤ _; exact Nat.le_of_eq rfl) (hb hby d6_22) (fun _ _ => ⟨rfl, rfl, (by decide : 2 + 0 ≤ _), (by decide : 5 + 0 ≤ _)⟩)
  dsimp only [Pt.U, Pt.locs, Pt.cells, Pt.slots] at X14 l14 y14 z14 st14 hQ14
  subst Lp14 kp14 np14
  obtain ⟨rfl, N14q, K14q, f14_0, f14_1⟩ := hQ14
  have N14 := Fr.app N9 N14q
  have sz18 : T9.heap.size ≤ T14.heap.size := K14q.1
  have O19 : Old Z n0 T14.heap := O11.keep K14q (allS (by omega : n0 ≤ b5) all0)
  have K20 : Keep h0 T14.heap [] := K12.trans K14q (allS (P := fun x => x ∈ [] ∨ h0.size ≤ x) (Or.inr (by omega)) all0)
  refine own_tr (S' := T14.setTop (mkF m 25 #[.val (.int c1)] [(.ref b5)])) st14 ?_
  have cx21 : Exa Z T14.heap b5 "java/lang/String" := (cx15.keep K14q)
  refine own_ret (Q := Q_own_valueOf Z c1 zc h0 n0) (C := ({ frames := 2, cells := 2, slots := 5, locals := 27 } : Room).cells) (N := ({ frames := 2, cells := 2, slots := 5, locals := 27 } : Room).slots) X14 (v := some (.ref b5)) (fun h => by rw [Bd.returns] at h; cases h) Bd.notSynchronized ?_ (by decide) (by decide) (fun fs hr => retOut X14 hx Bd.returns rfl (Or.inr (Or.inr (Or.inr (Or.inr ⟨rfl, rfl, rfl⟩)))) (hb hby d6_25) hr)
  show Q_own_valueOf Z c1 zc h0 n0 _ T14.heap _
  exact ⟨b5, rfl, N14, K20, cx21⟩
def Q_own_thrN (Z : State) (a : Addr) (sp : Addr) (d : Addr) (wN : Addr) (h0 : Heap) (n0 : Nat) (v : Option Value) (h : Heap) (L : List Loc) : Prop := v = some (.ref a) ∧ L = [] ∧ h = h0
set_option maxRecDepth 65536 in
set_option maxHeartbeats 40000000 in
theorem own_thrN (l : Launch) (Z : State) (a0 : Array Value) (hw : ∀ d ∈ tables_1, d.before a0 Z = true) (ws : List Jvm.Cond) (a : Addr) (sp : Addr) (d : Addr) (wN : Addr) (h0 : Heap) (n0 : Nat) (O0 : Old Z n0 h0) (zf_S_com_example_object_access_rules_objectaccessrules_Decision_NOT_APPLICABLE : Sta Z Z.heap "com/example/object_access_rules/objectaccessrules/Decision" "NOT_APPLICABLE" "Lcom/example/object_access_rules/objectaccessrules/Decision;" (.ref wN)) (f0_F_a_decision : Fld Z h0 a "com/example/object_access_rules/objectaccessrules/Result" "decision" "Lcom/example/object_access_rules/objectaccessrules/Decision;" (.ref d)) (hd : d = wN) :
    MetFree l mt8 (head1 (Jvm.Cond.code mt8 prog_37_method_13_code 2 (some (.object "com/example/object_access_rules/objectaccessrules/Result")) :: ws) ({ frames := 0, cells := 0, slots := 0, locals := 0 } : Room)) (fun aq U => aq = #[(.ref a), (.ref sp)] ∧ Z.Warmed39 U.vm ∧ U.heap = h0) (fun _ _ _ _ _ => True) (fun _ U o U' => ∃ v L, o = .returned v ∧ Q_own_thrN Z a sp d wN h0 n0 v U'.heap L ∧ FrameEnd U o U' L ({ frames := 0, cells := 0, slots := 0, locals := 0 } : Room).cells ({ frames := 0, cells := 0, slots := 0, locals := 0 } : Room).slots) := by
  refine MetFree.of_bodySF (plainFor_of_name pn_com_example_object_access_rules_objectaccessrules_Result) hisR ?_
  intro p e s m args below meth c s₁ Bd hml0 hP hK
  obtain ⟨rfl, hZ, hh⟩ := hP
  have hx := Bd.exec
  have hby := Bd.bytes
  have hml : c.maxLocals = 2 := hml0
  have hown : s.vm.findClass "com/example/object_access_rules/objectaccessrules/Result" = some m.cls := findClass_of_methodNamed Bd.named
  have hnm := (name_of_methodNamed Bd.named Bd.method).1
  have X0 : Stand p l e ({ frames := 0, cells := 0, slots := 0, locals := 0 } : Room) s m #[(.ref a), (.ref sp)] below meth c s₁ [] 0 0 := Stand.of_body Bd
  have e0 : s₁.heap = h0 := by rw [← hh, Bd.state]; rfl
  have N0 := Fr.nil n0
  have zO := O0.1
  have zO2 := O0.2.1
  have fl_F_a_decision : h0.size > a := f0_F_a_decision.lt
  refine own_open (own_via (S' := s₁.setTop (mkF m 0 #[.val (.ref a), .val (.ref sp)] [])) (fun t k => castTop (ef_own_thrN m a sp) k) ?_)
  refine own_via (S' := s₁.setTop (mkF m 1 #[.val (.ref a), .val (.ref sp)] [(.ref a)])) (fun t k => XS.aloadN X0.here hx rfl (hb hby d10_0) rfl rfl k) ?_
  obtain ⟨T1, X1, e1, st1⟩ := getF X0 hx hZ hown (host := "") (Or.inl (wd35 hw)) Via.refl e0 f0_F_a_decision (g := (mkF m 1 #[.val (.ref a), .val (.ref sp)] [(.ref a)])) rfl rfl (hb hby d10_1)
  refine own_via (S' := T1.setTop (mkF m 4 #[.val (.ref a), .val (.ref sp)] [(.ref d)])) st1 ?_
  have cx2 : Sta Z h0 "com/example/object_access_rules/objectaccessrules/Decision" "NOT_APPLICABLE" "Lcom/example/object_access_rules/objectaccessrules/Decision;" (.ref wN) := zf_S_com_example_object_access_rules_objectaccessrules_Decision_NOT_APPLICABLE.ext O0.2
  obtain ⟨T3, X3, e3, st3⟩ := getS2 X1 hx hZ hown (host := "") (Or.inl (wd81 hw)) Via.refl e1 cx2 (g := (mkF m 4 #[.val (.ref a), .val (.ref sp)] [(.ref d)])) rfl (hb hby d10_4)
  refine own_via (S' := T3.setTop (mkF m 7 #[.val (.ref a), .val (.ref sp)] [(.ref wN), (.ref d)])) st3 ?_
  refine own_via (S' := T3.setTop (mkF m 10 #[.val (.ref a), .val (.ref sp)] [])) (fun t k => Jvm.RoadKit.acmp (g := (mkF m 7 #[.val (.ref a), .val (.ref sp)] [(.ref wN), (.ref d)])) X3 hx rfl rfl rfl (pc0 := 7) (pc' := 10) (same := true) rfl (hb hby d10_7) rfl (decide_eq_true (congrArg Value.ref hd)) (by decide) (by decide) k) ?_
  refine own_via (S' := T3.setTop (mkF m 11 #[.val (.ref a), .val (.ref sp)] [(.ref a)])) (fun t k => XS.aloadN X3.here hx rfl (hb hby d10_10) rfl rfl k) ?_
  refine own_via (S' := T3.setTop (mkF m 35 #[.val (.ref a), .val (.ref sp)] [(.ref a)])) (fun t k => XS.goto X3.here hx rfl (pc0 := 11) (pc' := 35) rfl (hb hby d10_11) (by decide) (by decide) k) ?_
  refine own_ret (Q := Q_own_thrN Z a sp d wN h0 n0) (C := ({ frames := 0, cells := 0, slots := 0, locals := 0 } : Room).cells) (N := ({ frames := 0, cells := 0, slots := 0, locals := 0 } : Room).slots) X3 (v := some (.ref a)) (fun h => by rw [Bd.returns] at h; cases h) Bd.notSynchronized ?_ (by decide) (by decide) (fun fs hr => retOut X3 hx Bd.returns rfl (Or.inr (Or.inr (Or.inr (Or.inr ⟨rfl, rfl, rfl⟩)))) (hb hby d10_35) hr)
  show Q_own_thrN Z a sp d wN h0 n0 _ T3.heap _
  rw [e3]
  exact ⟨rfl, rfl, rfl⟩
def Q_own_thrX (Z : State) (a : Addr) (sp : Addr) (d : Addr) (sc : Addr) (ms : Addr) (tm : Addr) (km : ClassId) (zl : Int32) (vsm : List Value) (wI : Addr) (wO : Addr) (wN : Addr) (h0 : Heap) (n0 : Nat) (v : Option Value) (vm : Vm) (h : Heap) (L : List Loc) : Prop := ∃ b : Addr, v = some (.ref b) ∧ Fr n0 L ∧ Keep h0 h [] ∧ Exa Z h b "com/example/object_access_rules/objectaccessrules/Result" ∧ Fld Z h b "com/example/object_access_rules/objectaccessrules/Result" "decision" "Lcom/example/object_access_rules/objectaccessrules/Decision;" (.ref d) ∧ Fld Z h b "com/example/object_access_rules/objectaccessrules/Result" "status" "Lcom/example/object_access_rules/objectaccessrules/StatusCode;" (.ref sc) ∧ Fld Z h b "com/example/object_access_rules/objectaccessrules/Result" "message" "Ljava/lang/String;" (.ref ms) ∧ Fld Z h b "com/example/object_access_rules/objectaccessrules/Result" "step" "Ljava/lang/String;" (.ref sp) ∧ Fld Z h b "com/example/object_access_rules/objectaccessrules/Result" "below" "Lcom/example/object_access_rules/objectaccessrules/Result;" (.ref a)
set_option maxRecDepth 65536 in
set_option maxHeartbeats 40000000 in
theorem own_thrX (l : Launch) (Z : State) (a0 : Array Value) (hw : ∀ d ∈ tables_1, d.before a0 Z = true) (ws : List Jvm.Cond) (a : Addr) (sp : Addr) (d : Addr) (sc : Addr) (ms : Addr) (tm : Addr) (km : ClassId) (zl : Int32) (vsm : List Value) (wI : Addr) (wO : Addr) (wN : Addr) (h0 : Heap) (n0 : Nat) (O0 : Old Z n0 h0) (zf_S_com_example_object_access_rules_objectaccessrules_Decision_INDETERMINATE : Sta Z Z.heap "com/example/object_access_rules/objectaccessrules/Decision" "INDETERMINATE" "Lcom/example/object_access_rules/objectaccessrules/Decision;" (.ref wI)) (zf_S_com_example_object_access_rules_objectaccessrules_StatusCode_OK : Sta Z Z.heap "com/example/object_access_rules/objectaccessrules/StatusCode" "OK" "Lcom/example/object_access_rules/objectaccessrules/StatusCode;" (.ref wO)) (zf_S_com_example_object_access_rules_objectaccessrules_Decision_NOT_APPLICABLE : Sta Z Z.heap "com/example/object_access_rules/objectaccessrules/Decision" "NOT_APPLICABLE" "Lcom/example/object_access_rules/objectaccessrules/Decision;" (.ref wN)) (f0_E_a : Exa Z h0 a "com/example/object_access_rules/objectaccessrules/Result") (f0_F_a_decision : Fld Z h0 a "com/example/object_access_rules/objectaccessrules/Result" "decision" "Lcom/example/object_access_rules/objectaccessrules/Decision;" (.ref d)) (f0_F_a_status : Fld Z h0 a "com/example/object_access_rules/objectaccessrules/Result" "status" "Lcom/example/object_access_rules/objectaccessrules/StatusCode;" (.ref sc)) (f0_F_a_message : Fld Z h0 a "com/example/object_access_rules/objectaccessrules/Result" "message" "Ljava/lang/String;" (.ref ms)) (f0_E_d : Exa Z h0 d "com/example/object_access_rules/objectaccessrules/Decision") (f0_E_sc : Exa Z h0 sc "com/example/object_access_rules/objectaccessrules/StatusCode") (f0_E_ms : Exa Z h0 ms "java/lang/String") (f0_F_ms_value : Fld Z h0 ms "java/lang/String" "value" "[B" (.ref tm)) (f0_A_tm : Arv Z h0 tm km .byte zl vsm (.int (0 : Int32))) (hd : ¬ (d = wN)) (hcons : (d = wI ∧ ¬ (sc = wO)) ∨ (¬ (d = wI) ∧ sc = wO ∧ zl = (0 : Int32))) :
    MetFree l mt8 (head1 (Jvm.Cond.code mt8 prog_37_method_13_code 2 (some (.object "com/example/object_access_rules/objectaccessrules/Result")) :: ws) ({ frames := 2, cells := 7, slots := 101, locals := 32 } : Room)) (fun aq U => aq = #[(.ref a), (.ref sp)] ∧ Z.Warmed39 U.vm ∧ U.heap = h0 ∧ CHv Z own_EL U.vm h0 ∧ ∀ x ∈ ([] : List Addr), Safe Z own_EL U.vm h0 x) (fun _ _ _ _ _ => True) (fun _ U o U' => ∃ v L, o = .returned v ∧ Q_own_thrX Z a sp d sc ms tm km zl vsm wI wO wN h0 n0 v U'.vm U'.heap L ∧ CHr Z own_EL U.vm U.heap U'.vm U'.heap ∧ ReturnedEndW U o U' L ({ frames := 2, cells := 7, slots := 101, locals := 32 } : Room).cells ({ frames := 2, cells := 7, slots := 101, locals := 32 } : Room).slots) := by
  refine MetFree.of_bodySF (plainFor_of_name pn_com_example_object_access_rules_objectaccessrules_Result) hisR ?_
  intro p e s m args below meth c s₁ Bd hml0 hP hK
  obtain ⟨rfl, hZ, hh, hCH, hSL⟩ := hP
  have hx := Bd.exec
  have hby := Bd.bytes
  have hml : c.maxLocals = 2 := hml0
  have hown : s.vm.findClass "com/example/object_access_rules/objectaccessrules/Result" = some m.cls := findClass_of_methodNamed Bd.named
  have hnm := (name_of_methodNamed Bd.named Bd.method).1
  have X0 : Stand p l e ({ frames := 2, cells := 7, slots := 101, locals := 32 } : Room) (s.setVm s.vm) m #[(.ref a), (.ref sp)] below meth c s₁ [] 0 0 := Stand.of_body Bd
  have e0 : s₁.heap = h0 := by rw [← hh, Bd.state]; rfl
  have N0 := Fr.nil n0
  have zO := O0.1
  have zO2 := O0.2.1
  have fl_E_a : h0.size > a := f0_E_a.lt
  have fl_F_a_decision : h0.size > a := f0_F_a_decision.lt
  have fl_F_a_status : h0.size > a := f0_F_a_status.lt
  have fl_F_a_message : h0.size > a := f0_F_a_message.lt
  have fl_E_d : h0.size > d := f0_E_d.lt
  have fl_E_sc : h0.size > sc := f0_E_sc.lt
  have fl_E_ms : h0.size > ms := f0_E_ms.lt
  have fl_F_ms_value : h0.size > ms := f0_F_ms_value.lt
  have fl_A_tm : h0.size > tm := f0_A_tm.lt
  refine own_open (own_via (S' := s₁.setTop (mkF m 0 #[.val (.ref a), .val (.ref sp)] [])) (fun t k => castTop (ef_own_thrX m a sp) k) ?_)
  have hEL := own_EW hw
  have hS0 : s.Since s.vm h0.size := (State.WarmedH.refl s).since _
  have R0 : CHr Z own_EL s.vm h0 s.vm h0 := CHr.refl hCH
  have K0 : Keep h0 h0 [] := Keep.refl _ _
  have ne_a_d : a ≠ d := Exa.ne f0_E_a f0_E_d (by decide)
  have ne_a_sc : a ≠ sc := Exa.ne f0_E_a f0_E_sc (by decide)
  have ne_a_ms : a ≠ ms := Exa.ne f0_E_a f0_E_ms (by decide)
  have ne_a_tm : a ≠ tm := Exa.neArv f0_E_a f0_A_tm (wd17 hw)
  have ne_d_sc : d ≠ sc := Exa.ne f0_E_d f0_E_sc (by decide)
  have ne_d_ms : d ≠ ms := Exa.ne f0_E_d f0_E_ms (by decide)
  have ne_sc_ms : sc ≠ ms := Exa.ne f0_E_sc f0_E_ms (by decide)
  have ne_ms_tm : ms ≠ tm := Exa.neArv f0_E_ms f0_A_tm (wd10 hw)
  refine own_via (S' := s₁.setTop (mkF m 1 #[.val (.ref a), .val (.ref sp)] [(.ref a)])) (fun t k => XS.aloadN X0.here hx rfl (hb hby d10_0) rfl rfl k) ?_
  obtain ⟨T1, X1, e1, st1⟩ := getF X0 hx hZ hown (host := "") (Or.inl (wd35 hw)) Via.refl e0 f0_F_a_decision (g := (mkF m 1 #[.val (.ref a), .val (.ref sp)] [(.ref a)])) rfl rfl (hb hby d10_1)
  refine own_via (S' := T1.setTop (mkF m 4 #[.val (.ref a), .val (.ref sp)] [(.ref d)])) st1 ?_
  have cx2 : Sta Z h0 "com/example/object_access_rules/objectaccessrules/Decision" "NOT_APPLICABLE" "Lcom/example/object_access_rules/objectaccessrules/Decision;" (.ref wN) := zf_S_com_example_object_access_rules_objectaccessrules_Decision_NOT_APPLICABLE.ext O0.2
  obtain ⟨T3, X3, e3, st3⟩ := getS2 X1 hx hZ hown (host := "") (Or.inl (wd81 hw)) Via.refl e1 cx2 (g := (mkF m 4 #[.val (.ref a), .val (.ref sp)] [(.ref d)])) rfl (hb hby d10_4)
  refine own_via (S' := T3.setTop (mkF m 7 #[.val (.ref a), .val (.ref sp)] [(.ref wN), (.ref d)])) st3 ?_
  refine own_via (S' := T3.setTop (mkF m 14 #[.val (.ref a), .val (.ref sp)] [])) (fun t k => Jvm.RoadKit.acmp (g := (mkF m 7 #[.val (.ref a), .val (.ref sp)] [(.ref wN), (.ref d)])) X3 hx rfl rfl rfl (pc0 := 7) (pc' := 14) (same := false) rfl (hb hby d10_7) rfl (decide_eq_false fun q => hd (Value.ref.inj q)) (by decide) (by decide) k) ?_
  obtain ⟨T4, h4, X4, e4, E4, A4, D4, -, st4⟩ := newO X3 hx hZ hown (wd83 hw) (wd17 hw) (wd18 hw) e3 (g := (mkF m 14 #[.val (.ref a), .val (.ref sp)] [])) rfl (hb hby d10_14) (by decide) (by decide)
  obtain ⟨b4, g4⟩ : ∃ z, z = h0.size := ⟨_, rfl⟩
  rw [← g4] at A4 D4 st4
  have lt_b4 : h4.size > b4 := A4.lt
  have sz5 : h0.size ≤ h4.size := E4.1
  have O6 : Old Z n0 h4 := O0.ext E4
  have R7 : CHr Z own_EL s.vm h0 s.vm h4 := R0.trans (CHr.ext E4 R0.1)
  have K8 : Keep h0 h4 [] := K0.ext E4
  have F4_decision : Fld Z h4 b4 "com/example/object_access_rules/objectaccessrules/Result" "decision" "Lcom/example/object_access_rules/objectaccessrules/Decision;" .null := D4 (Or.inr (wd36 hw)) (ty := (.object "com/example/object_access_rules/objectaccessrules/Decision")) (by decide)
  have F4_status : Fld Z h4 b4 "com/example/object_access_rules/objectaccessrules/Result" "status" "Lcom/example/object_access_rules/objectaccessrules/StatusCode;" .null := D4 (Or.inr (wd41 hw)) (ty := (.object "com/example/object_access_rules/objectaccessrules/StatusCode")) (by decide)
  have F4_message : Fld Z h4 b4 "com/example/object_access_rules/objectaccessrules/Result" "message" "Ljava/lang/String;" .null := D4 (Or.inr (wd46 hw)) (ty := (.object "java/lang/String")) (by decide)
  have F4_step : Fld Z h4 b4 "com/example/object_access_rules/objectaccessrules/Result" "step" "Ljava/lang/String;" .null := D4 (Or.inr (wd56 hw)) (ty := (.object "java/lang/String")) (by decide)
  have F4_below : Fld Z h4 b4 "com/example/object_access_rules/objectaccessrules/Result" "below" "Lcom/example/object_access_rules/objectaccessrules/Result;" .null := D4 (Or.inr (wd58 hw)) (ty := (.object "com/example/object_access_rules/objectaccessrules/Result")) (by decide)
  refine own_via (S' := T4.setTop (mkF m 17 #[.val (.ref a), .val (.ref sp)] [(.ref b4)])) st4 ?_
  refine own_via (S' := T4.setTop (mkF m 18 #[.val (.ref a), .val (.ref sp)] [(.ref b4), (.ref b4)])) (fun t k => XS.dup X4.here hx rfl (hb hby d10_17) rfl rfl k) ?_
  refine own_via (S' := T4.setTop (mkF m 19 #[.val (.ref a), .val (.ref sp)] [(.ref a), (.ref b4), (.ref b4)])) (fun t k => XS.aloadN X4.here hx rfl (hb hby d10_18) rfl rfl k) ?_
  have cx9 : Fld Z h4 a "com/example/object_access_rules/objectaccessrules/Result" "decision" "Lcom/example/object_access_rules/objectaccessrules/Decision;" (.ref d) := (f0_F_a_decision.ext E4)
  obtain ⟨T10, X10, e10, st10⟩ := getF X4 hx hZ hown (host := "") (Or.inl (wd35 hw)) Via.refl e4 cx9 (g := (mkF m 19 #[.val (.ref a), .val (.ref sp)] [(.ref a), (.ref b4), (.ref b4)])) rfl rfl (hb hby d10_19)
  refine own_via (S' := T10.setTop (mkF m 22 #[.val (.ref a), .val (.ref sp)] [(.ref d), (.ref b4), (.ref b4)])) st10 ?_
  refine own_via (S' := T10.setTop (mkF m 23 #[.val (.ref a), .val (.ref sp)] [(.ref a), (.ref d), (.ref b4), (.ref b4)])) (fun t k => XS.aloadN X10.here hx rfl (hb hby d10_22) rfl rfl k) ?_
  have cx11 : Fld Z h4 a "com/example/object_access_rules/objectaccessrules/Result" "status" "Lcom/example/object_access_rules/objectaccessrules/StatusCode;" (.ref sc) := (f0_F_a_status.ext E4)
  obtain ⟨T12, X12, e12, st12⟩ := getF X10 hx hZ hown (host := "") (Or.inl (wd40 hw)) Via.refl e10 cx11 (g := (mkF m 23 #[.val (.ref a), .val (.ref sp)] [(.ref a), (.ref d), (.ref b4), (.ref b4)])) rfl rfl (hb hby d10_23)
  refine own_via (S' := T12.setTop (mkF m 26 #[.val (.ref a), .val (.ref sp)] [(.ref sc), (.ref d), (.ref b4), (.ref b4)])) st12 ?_
  refine own_via (S' := T12.setTop (mkF m 27 #[.val (.ref a), .val (.ref sp)] [(.ref a), (.ref sc), (.ref d), (.ref b4), (.ref b4)])) (fun t k => XS.aloadN X12.here hx rfl (hb hby d10_26) rfl rfl k) ?_
  have cx13 : Fld Z h4 a "com/example/object_access_rules/objectaccessrules/Result" "message" "Ljava/lang/String;" (.ref ms) := (f0_F_a_message.ext E4)
  obtain ⟨T14, X14, e14, st14⟩ := getF X12 hx hZ hown (host := "") (Or.inl (wd45 hw)) Via.refl e12 cx13 (g := (mkF m 27 #[.val (.ref a), .val (.ref sp)] [(.ref a), (.ref sc), (.ref d), (.ref b4), (.ref b4)])) rfl rfl (hb hby d10_27)
  refine own_via (S' := T14.setTop (mkF m 30 #[.val (.ref a), .val (.ref sp)] [(.ref ms), (.ref sc), (.ref d), (.ref b4), (.ref b4)])) st14 ?_
  refine own_via (S' := T14.setTop (mkF m 31 #[.val (.ref a), .val (.ref sp)] [(.ref sp), (.ref ms), (.ref sc), (.ref d), (.ref b4), (.ref b4)])) (fun t k => XS.aloadN X14.here hx rfl (hb hby d10_30) rfl rfl k) ?_
  refine own_via (S' := T14.setTop (mkF m 32 #[.val (.ref a), .val (.ref sp)] [(.ref a), (.ref sp), (.ref ms), (.ref sc), (.ref d), (.ref b4), (.ref b4)])) (fun t k => XS.aloadN X14.here hx rfl (hb hby d10_31) rfl rfl k) ?_
  have cx16 : Exa Z h4 d "com/example/object_access_rules/objectaccessrules/Decision" := (f0_E_d.ext E4)
  have cx17 : Exa Z h4 sc "com/example/object_access_rules/objectaccessrules/StatusCode" := (f0_E_sc.ext E4)
  have cx18 : Exa Z h4 ms "java/lang/String" := (f0_E_ms.ext E4)
  have cx19 : Fld Z h4 ms "java/lang/String" "value" "[B" (.ref tm) := (f0_F_ms_value.ext E4)
  have cx20 : Arv Z h4 tm km .byte zl vsm (.int (0 : Int32)) := (f0_A_tm.ext E4)
  have hk15 : h0.size ≤ T14.heap.size := by rw [e14]; omega
  obtain ⟨_, _, ⟨T15, Lp15, kp15, np15⟩, -, X15, hS15, hgr15, ⟨Lc15, ⟨hQ15, R15q⟩, l15, y15, z15⟩, st15⟩ := X14.specialBackS hx (y := mt2) rfl hown (mvT hZ (wd22 hw)) (mvT hZ (wd23 hw)) (mvT hZ (wd24 hw)) (by decide) (own_backW (SL := []) (W := 1) (own_r5R l Z a0 hw [] b4 d sc ms sp a tm km zl vsm wI wO h4 n0 O6 zf_S_com_example_object_access_rules_objectaccessrules_Decision_INDETERMINATE zf_S_com_example_object_access_rules_objectaccessrules_StatusCode_OK A4 F4_decision F4_status F4_message F4_step F4_below cx16 cx17 cx18 cx19 cx20 (by first | assumption | exact Ne.symm (by assumption) | omega | exact Nat.ne_of_lt (by omega) | exact Nat.ne_of_gt (by omega) | decide | exact Nat.le_of_ble_eq_true rfl) (by first | assumption | exact Ne.symm (by assumption) | omega | exact Nat.ne_of_lt (by omega) | exact Nat.ne_of_gt (by omega) | decide | exact Nat.le_of_ble_eq_true rfl)) hZ (wd24 hw) (wd18 hw) (by decide) (by decide) hEL R7.1 all0) (g := (mkF m 32 #[.val (.ref a), .val (.ref sp)] [(.ref a), (.ref sp), (.ref ms), (.ref sc), (.ref d), (.ref b4), (.ref b4)])) rfl (by rw [hml]; rfl) (Steps.refl _) (a := b4) (argsL := [(.ref d), (.ref sc), (.ref ms), (.ref sp), (.ref a)]) (rest := [(.ref b4)]) (lenOf pd__Lcom_example_object_access_rules_objectaccessrules_Decision_Lcom_example_object_access_rules_objectaccessrules_StatusCode_Ljava_lang_String_Ljava_lang_String_Lcom_example_object_access_rules_objectaccessrules_Result__V_1701 rfl) rfl (by show 2 * 0 + _ ≤ _; exact Nat.le_of_eq rfl) (hb hby d10_32) (fun _ _ => ⟨rfl, e14, (by decide : 1 + 6 ≤ _), (by decide : 5 + 96 ≤ _)⟩)
  dsimp only [Pt.U, Pt.locs, Pt.cells, Pt.slots] at X15 l15 y15 z15 st15 hQ15 hS15 hgr15 R15q
  subst Lp15 kp15 np15
  obtain ⟨X15, hSn15, hZ, hown⟩ := rebS hS0 hk15 X15 hS15 hgr15 hZ hown
  obtain ⟨rfl, N15q, K15q, f15_0, f15_1, f15_2, f15_3, f15_4⟩ := hQ15
  have N15 := Fr.app N0 N15q
  have sz21 : h4.size ≤ T15.heap.size := K15q.1
  have R22 : CHr Z own_EL s.vm h0 T15.vm T15.heap := R7.trans R15q
  have O23 : Old Z n0 T15.heap := O6.keep K15q (allS (by omega : n0 ≤ b4) all0)
  have K24 : Keep h0 T15.heap [] := K8.trans K15q (allS (P := fun x => x ∈ [] ∨ h0.size ≤ x) (Or.inr (by omega)) all0)
  refine own_tr (S' := T15.setTop (mkF m 35 #[.val (.ref a), .val (.ref sp)] [(.ref b4)])) st15 ?_
  have cx25 : Exa Z T15.heap b4 "com/example/object_access_rules/objectaccessrules/Result" := (A4.keep K15q)
  have RTR22 : CHr Z own_EL s.vm h0 T15.vm T15.heap := R22.trans (CHv.at X15 hZ hEL R22.1)
  have RXR22 : CHr Z own_EL s.vm s.heap T15.vm T15.heap := by rw [hh]; exact RTR22
  refine own_retW (Q := Q_own_thrX Z a sp d sc ms tm km zl vsm wI wO wN h0 n0) (C := ({ frames := 2, cells := 7, slots := 101, locals := 32 } : Room).cells) (N := ({ frames := 2, cells := 7, slots := 101, locals := 32 } : Room).slots) X15 hSn15 (by omega) (v := some (.ref b4)) (fun h => by rw [Bd.returns] at h; cases h) Bd.notSynchronized ?_ RXR22 (by decide) (by decide) (fun fs hr => retOut X15 hx Bd.returns rfl (Or.inr (Or.inr (Or.inr (Or.inr ⟨rfl, rfl, rfl⟩)))) (hb hby d10_35) hr)
  show Q_own_thrX Z a sp d sc ms tm km zl vsm wI wO wN h0 n0 _ T15.vm T15.heap _
  exact ⟨b4, rfl, N15, K24, cx25, f15_0, f15_1, f15_2, f15_3, f15_4⟩
def Q_own_adN (Z : State) (a : Addr) (wI : Addr) (wO : Addr) (wD : Addr) (h0 : Heap) (n0 : Nat) (v : Option Value) (vm : Vm) (h : Heap) (L : List Loc) : Prop := ∃ b : Addr, v = some (.ref b) ∧ Fr n0 L ∧ Keep h0 h [] ∧ Exa Z h b "com/example/object_access_rules/objectaccessrules/Result" ∧ Fld Z h b "com/example/object_access_rules/objectaccessrules/Result" "step" "Ljava/lang/String;" .null ∧ Fld Z h b "com/example/object_access_rules/objectaccessrules/Result" "below" "Lcom/example/object_access_rules/objectaccessrules/Result;" .null
set_option maxRecDepth 65536 in
set_option maxHeartbeats 40000000 in
theorem own_adN (l : Launch) (Z : State) (a0 : Array Value) (hw : ∀ d ∈ tables_1, d.before a0 Z = true) (ws : List Jvm.Cond) (a : Addr) (wI : Addr) (wO : Addr) (wD : Addr) (h0 : Heap) (n0 : Nat) (O0 : Old Z n0 h0) (zf_S_com_example_object_access_rules_objectaccessrules_Decision_INDETERMINATE : Sta Z Z.heap "com/example/object_access_rules/objectaccessrules/Decision" "INDETERMINATE" "Lcom/example/object_access_rules/objectaccessrules/Decision;" (.ref wI)) (zf_S_com_example_object_access_rules_objectaccessrules_StatusCode_OK : Sta Z Z.heap "com/example/object_access_rules/objectaccessrules/StatusCode" "OK" "Lcom/example/object_access_rules/objectaccessrules/StatusCode;" (.ref wO)) (zf_S_com_example_object_access_rules_objectaccessrules_Decision_DENY : Sta Z Z.heap "com/example/object_access_rules/objectaccessrules/Decision" "DENY" "Lcom/example/object_access_rules/objectaccessrules/Decision;" (.ref wD)) (zf_E_wD : Exa Z Z.heap wD "com/example/object_access_rules/objectaccessrules/Decision") (zf_E_wO : Exa Z Z.heap wO "com/example/object_access_rules/objectaccessrules/StatusCode") (f0_F_a_step : Fld Z h0 a "com/example/object_access_rules/objectaccessrules/Result" "step" "Ljava/lang/String;" .null) (f0_F_a_below : Fld Z h0 a "com/example/object_access_rules/objectaccessrules/Result" "below" "Lcom/example/object_access_rules/objectaccessrules/Result;" .null) (hDI : ¬ (wD = wI)) :
    MetFree l mt9 (head1 (Jvm.Cond.code mt9 prog_37_method_14_code 1 (some (.object "com/example/object_access_rules/objectaccessrules/Result")) :: ws) ({ frames := 2, cells := 9, slots := 105, locals := 32 } : Room)) (fun aq U => aq = #[(.ref a)] ∧ Z.Warmed39 U.vm ∧ U.heap = h0 ∧ CHv Z own_EL U.vm h0 ∧ ∀ x ∈ ([] : List Addr), Safe Z own_EL U.vm h0 x) (fun _ _ _ _ _ => True) (fun _ U o U' => ∃ v L, o = .returned v ∧ Q_own_adN Z a wI wO wD h0 n0 v U'.vm U'.heap L ∧ CHr Z own_EL U.vm U.heap U'.vm U'.heap ∧ ReturnedEndW U o U' L ({ frames := 2, cells := 9, slots := 105, locals := 32 } : Room).cells ({ frames := 2, cells := 9, slots := 105, locals := 32 } : Room).slots) := by
  refine MetFree.of_bodySF (plainFor_of_name pn_com_example_object_access_rules_objectaccessrules_Result) hisR ?_
  intro p e s m args below meth c s₁ Bd hml0 hP hK
  obtain ⟨rfl, hZ, hh, hCH, hSL⟩ := hP
  have hx := Bd.exec
  have hby := Bd.bytes
  have hml : c.maxLocals = 1 := hml0
  have hown : s.vm.findClass "com/example/object_access_rules/objectaccessrules/Result" = some m.cls := findClass_of_methodNamed Bd.named
  have hnm := (name_of_methodNamed Bd.named Bd.method).1
  have X0 : Stand p l e ({ frames := 2, cells := 9, slots := 105, locals := 32 } : Room) (s.setVm s.vm) m #[(.ref a)] below meth c s₁ [] 0 0 := Stand.of_body Bd
  have e0 : s₁.heap = h0 := by rw [← hh, Bd.state]; rfl
  have N0 := Fr.nil n0
  have zO := O0.1
  have zO2 := O0.2.1
  have zl_E_wD : Z.heap.size > wD := zf_E_wD.lt
  have zl_E_wO : Z.heap.size > wO := zf_E_wO.lt
  have fl_F_a_step : h0.size > a := f0_F_a_step.lt
  have fl_F_a_below : h0.size > a := f0_F_a_below.lt
  refine own_open (own_via (S' := s₁.setTop (mkF m 0 #[.val (.ref a)] [])) (fun t k => castTop (ef_own_adN m a) k) ?_)
  have hEL := own_EW hw
  have hS0 : s.Since s.vm h0.size := (State.WarmedH.refl s).since _
  have R0 : CHr Z own_EL s.vm h0 s.vm h0 := CHr.refl hCH
  have K0 : Keep h0 h0 [] := Keep.refl _ _
  obtain ⟨T1, h1, X1, e1, E1, A1, D1, -, st1⟩ := newO X0 hx hZ hown (wd83 hw) (wd17 hw) (wd18 hw) e0 (g := (mkF m 0 #[.val (.ref a)] [])) rfl (hb hby d12_0) (by decide) (by decide)
  obtain ⟨b1, g1⟩ : ∃ z, z = h0.size := ⟨_, rfl⟩
  rw [← g1] at A1 D1 st1
  have lt_b1 : h1.size > b1 := A1.lt
  have sz2 : h0.size ≤ h1.size := E1.1
  have O3 : Old Z n0 h1 := O0.ext E1
  have R4 : CHr Z own_EL s.vm h0 s.vm h1 := R0.trans (CHr.ext E1 R0.1)
  have K5 : Keep h0 h1 [] := K0.ext E1
  have F1_decision : Fld Z h1 b1 "com/example/object_access_rules/objectaccessrules/Result" "decision" "Lcom/example/object_access_rules/objectaccessrules/Decision;" .null := D1 (Or.inr (wd36 hw)) (ty := (.object "com/example/object_access_rules/objectaccessrules/Decision")) (by decide)
  have F1_status : Fld Z h1 b1 "com/example/object_access_rules/objectaccessrules/Result" "status" "Lcom/example/object_access_rules/objectaccessrules/StatusCode;" .null := D1 (Or.inr (wd41 hw)) (ty := (.object "com/example/object_access_rules/objectaccessrules/StatusCode")) (by decide)
  have F1_message : Fld Z h1 b1 "com/example/object_access_rules/objectaccessrules/Result" "message" "Ljava/lang/String;" .null := D1 (Or.inr (wd46 hw)) (ty := (.object "java/lang/String")) (by decide)
  have F1_step : Fld Z h1 b1 "com/example/object_access_rules/objectaccessrules/Result" "step" "Ljava/lang/String;" .null := D1 (Or.inr (wd56 hw)) (ty := (.object "java/lang/String")) (by decide)
  have F1_below : Fld Z h1 b1 "com/example/object_access_rules/objectaccessrules/Result" "below" "Lcom/example/object_access_rules/objectaccessrules/Result;" .null := D1 (Or.inr (wd58 hw)) (ty := (.object "com/example/object_access_rules/objectaccessrules/Result")) (by decide)
  refine own_via (S' := T1.setTop (mkF m 3 #[.val (.ref a)] [(.ref b1)])) st1 ?_
  refine own_via (S' := T1.setTop (mkF m 4 #[.val (.ref a)] [(.ref b1), (.ref b1)])) (fun t k => XS.dup X1.here hx rfl (hb hby d12_3) rfl rfl k) ?_
  have cx6 : Sta Z h1 "com/example/object_access_rules/objectaccessrules/Decision" "DENY" "Lcom/example/object_access_rules/objectaccessrules/Decision;" (.ref wD) := zf_S_com_example_object_access_rules_objectaccessrules_Decision_DENY.ext O3.2
  obtain ⟨T7, X7, e7, st7⟩ := getS2 X1 hx hZ hown (host := "") (Or.inl (wd94 hw)) Via.refl e1 cx6 (g := (mkF m 4 #[.val (.ref a)] [(.ref b1), (.ref b1)])) rfl (hb hby d12_4)
  refine own_via (S' := T7.setTop (mkF m 7 #[.val (.ref a)] [(.ref wD), (.ref b1), (.ref b1)])) st7 ?_
  have cx8 : Sta Z h1 "com/example/object_access_rules/objectaccessrules/StatusCode" "OK" "Lcom/example/object_access_rules/objectaccessrules/StatusCode;" (.ref wO) := zf_S_com_example_object_access_rules_objectaccessrules_StatusCode_OK.ext O3.2
  obtain ⟨T9, X9, e9, st9⟩ := getS2 X7 hx hZ hown (host := "") (Or.inl (wd48 hw)) Via.refl e7 cx8 (g := (mkF m 7 #[.val (.ref a)] [(.ref wD), (.ref b1), (.ref b1)])) rfl (hb hby d12_7)
  refine own_via (S' := T9.setTop (mkF m 10 #[.val (.ref a)] [(.ref wO), (.ref wD), (.ref b1), (.ref b1)])) st9 ?_
  obtain ⟨b10, T10, h10, kk10, t10, kb10, X10, e10, E10, hS10, hk10, hZ, hown, f10_0, f10_1, f10_2, f10_3, lta10, ltb10, R10q, hLit10, hsn10, st10⟩ := ldcCH X9 hx hZ hown (wd96 hw) (own_wS hw) e9 hS0 (by omega) hEL (List.mem_of_getElem? (i := 0) rfl) R4.1 (vs := []) (z := (0 : Int32)) ⟨by decide, rfl⟩ (by decide) rfl (g := (mkF m 10 #[.val (.ref a)] [(.ref wO), (.ref wD), (.ref b1), (.ref b1)])) rfl (hb hby d12_10) (n := 0) (by decide) (by decide) (by decide) (by decide)
  have sz11 : h1.size ≤ h10.size := E10.1
  have O12 : Old Z n0 h10 := O3.ext E10
  have R13 : CHr Z own_EL s.vm h0 T10.vm h10 := R4.trans R10q
  have K14 : Keep h0 h10 [] := K5.ext E10
  have lt_b10 : h10.size > b10 := lta10
  have lt_t10 : h10.size > t10 := ltb10
  have cx15 : Exa Z h10 wD "com/example/object_access_rules/objectaccessrules/Decision" := zf_E_wD.ext O12.2
  have ne_wD_b10 : wD ≠ b10 := (hsn10 _ (Safe.exa hZ.alike cx15 (by decide) (by decide))).1
  have ne_wD_t10 : wD ≠ t10 := (hsn10 _ (Safe.exa hZ.alike cx15 (by decide) (by decide))).2
  have cx16 : Exa Z h10 wO "com/example/object_access_rules/objectaccessrules/StatusCode" := zf_E_wO.ext O12.2
  have ne_wO_b10 : wO ≠ b10 := (hsn10 _ (Safe.exa hZ.alike cx16 (by decide) (by decide))).1
  have ne_wO_t10 : wO ≠ t10 := (hsn10 _ (Safe.exa hZ.alike cx16 (by decide) (by decide))).2
  have cx17 : Exa Z h10 b1 "com/example/object_access_rules/objectaccessrules/Result" := (A1.ext E10)
  have ne_b1_b10 : b1 ≠ b10 := (hsn10 _ (Safe.exa hZ.alike cx17 (by decide) (by decide))).1
  have ne_b1_t10 : b1 ≠ t10 := (hsn10 _ (Safe.exa hZ.alike cx17 (by decide) (by decide))).2
  refine own_via (S' := T10.setTop (mkF m 12 #[.val (.ref a)] [(.ref b10), (.ref wO), (.ref wD), (.ref b1), (.ref b1)])) st10 ?_
  refine own_via (S' := T10.setTop (mkF m 13 #[.val (.ref a)] [(.ref a), (.ref b10), (.ref wO), (.ref wD), (.ref b1), (.ref b1)])) (fun t k => XS.aloadN X10.here hx rfl (hb hby d12_12) rfl rfl k) ?_
  have cx18 : Fld Z h10 a "com/example/object_access_rules/objectaccessrules/Result" "step" "Ljava/lang/String;" .null := ((f0_F_a_step.ext E1).ext E10)
  obtain ⟨T19, X19, e19, st19⟩ := getF X10 hx hZ hown (host := "") (Or.inl (wd55 hw)) Via.refl e10 cx18 (g := (mkF m 13 #[.val (.ref a)] [(.ref a), (.ref b10), (.ref wO), (.ref wD), (.ref b1), (.ref b1)])) rfl rfl (hb hby d12_13)
  refine own_via (S' := T19.setTop (mkF m 16 #[.val (.ref a)] [.null, (.ref b10), (.ref wO), (.ref wD), (.ref b1), (.ref b1)])) st19 ?_
  refine own_via (S' := T19.setTop (mkF m 17 #[.val (.ref a)] [(.ref a), .null, (.ref b10), (.ref wO), (.ref wD), (.ref b1), (.ref b1)])) (fun t k => XS.aloadN X19.here hx rfl (hb hby d12_16) rfl rfl k) ?_
  have cx20 : Fld Z h10 a "com/example/object_access_rules/objectaccessrules/Result" "below" "Lcom/example/object_access_rules/objectaccessrules/Result;" .null := ((f0_F_a_below.ext E1).ext E10)
  obtain ⟨T21, X21, e21, st21⟩ := getF X19 hx hZ hown (host := "") (Or.inl (wd57 hw)) Via.refl e19 cx20 (g := (mkF m 17 #[.val (.ref a)] [(.ref a), .null, (.ref b10), (.ref wO), (.ref wD), (.ref b1), (.ref b1)])) rfl rfl (hb hby d12_17)
  refine own_via (S' := T21.setTop (mkF m 20 #[.val (.ref a)] [.null, .null, (.ref b10), (.ref wO), (.ref wD), (.ref b1), (.ref b1)])) st21 ?_
  have cx23 : Fld Z h10 b1 "com/example/object_access_rules/objectaccessrules/Result" "decision" "Lcom/example/object_access_rules/objectaccessrules/Decision;" .null := (F1_decision.ext E10)
  have cx24 : Fld Z h10 b1 "com/example/object_access_rules/objectaccessrules/Result" "status" "Lcom/example/object_access_rules/objectaccessrules/StatusCode;" .null := (F1_status.ext E10)
  have cx25 : Fld Z h10 b1 "com/example/object_access_rules/objectaccessrules/Result" "message" "Ljava/lang/String;" .null := (F1_message.ext E10)
  have cx26 : Fld Z h10 b1 "com/example/object_access_rules/objectaccessrules/Result" "step" "Ljava/lang/String;" .null := (F1_step.ext E10)
  have cx27 : Fld Z h10 b1 "com/example/object_access_rules/objectaccessrules/Result" "below" "Lcom/example/object_access_rules/objectaccessrules/Result;" .null := (F1_below.ext E10)
  have hk22 : kk10 ≤ T21.heap.size := by rw [e21]; omega
  obtain ⟨_, _, ⟨T22, Lp22, kp22, np22⟩, -, X22, hS22, hgr22, ⟨Lc22, ⟨hQ22, R22q⟩, l22, y22, z22⟩, st22⟩ := X21.specialBackS hx (y := mt2) rfl hown (mvT hZ (wd22 hw)) (mvT hZ (wd23 hw)) (mvT hZ (wd24 hw)) (by decide) (own_backW (SL := []) (W := 1) (own_r5N l Z a0 hw [] b1 wD wO b10 t10 kb10 (0 : Int32) [] wI wO h10 n0 O12 zf_S_com_example_object_access_rules_objectaccessrules_Decision_INDETERMINATE zf_S_com_example_object_access_rules_objectaccessrules_StatusCode_OK cx17 cx23 cx24 cx25 cx26 cx27 cx15 cx16 f10_0 f10_2 f10_3 (by omega) (Or.inr ⟨hDI, rfl, rfl⟩)) hZ (wd24 hw) (wd18 hw) (by decide) (by decide) hEL R13.1 all0) (g := (mkF m 20 #[.val (.ref a)] [.null, .null, (.ref b10), (.ref wO), (.ref wD), (.ref b1), (.ref b1)])) rfl (by rw [hml]; rfl) (Steps.refl _) (a := b1) (argsL := [(.ref wD), (.ref wO), (.ref b10), .null, .null]) (rest := [(.ref b1)]) (lenOf pd__Lcom_example_object_access_rules_objectaccessrules_Decision_Lcom_example_object_access_rules_objectaccessrules_StatusCode_Ljava_lang_String_Ljava_lang_String_Lcom_example_object_access_rules_objectaccessrules_Result__V_1701 rfl) rfl (by show 2 * 0 + _ ≤ _; exact Nat.le_of_eq rfl) (hb hby d12_20) (fun _ _ => ⟨rfl, e21, (by decide : 3 + 6 ≤ _), (by decide : 9 + 96 ≤ _)⟩)
  dsimp only [Pt.U, Pt.locs, Pt.cells, Pt.slots] at X22 l22 y22 z22 st22 hQ22 hS22 hgr22 R22q
  subst Lp22 kp22 np22
  obtain ⟨X22, hSn22, hZ, hown⟩ := rebS hS10 hk22 X22 hS22 hgr22 hZ hown
  obtain ⟨rfl, N22q, K22q, f22_0, f22_1, f22_2, f22_3, f22_4⟩ := hQ22
  have N22 := Fr.app N0 N22q
  have sz28 : h10.size ≤ T22.heap.size := K22q.1
  have R29 : CHr Z own_EL s.vm h0 T22.vm T22.heap := R13.trans R22q
  have O30 : Old Z n0 T22.heap := O12.keep K22q (allS (by omega : n0 ≤ b1) all0)
  have K31 : Keep h0 T22.heap [] := K14.trans K22q (allS (P := fun x => x ∈ [] ∨ h0.size ≤ x) (Or.inr (by omega)) all0)
  refine own_tr (S' := T22.setTop (mkF m 23 #[.val (.ref a)] [(.ref b1)])) st22 ?_
  have cx32 : Exa Z T22.heap b1 "com/example/object_access_rules/objectaccessrules/Result" := (cx17.keep K22q)
  have RTR29 : CHr Z own_EL s.vm h0 T22.vm T22.heap := R29.trans (CHv.at X22 hZ hEL R29.1)
  have RXR29 : CHr Z own_EL s.vm s.heap T22.vm T22.heap := by rw [hh]; exact RTR29
  refine own_retW (Q := Q_own_adN Z a wI wO wD h0 n0) (C := ({ frames := 2, cells := 9, slots := 105, locals := 32 } : Room).cells) (N := ({ frames := 2, cells := 9, slots := 105, locals := 32 } : Room).slots) X22 hSn22 (by omega) (v := some (.ref b1)) (fun h => by rw [Bd.returns] at h; cases h) Bd.notSynchronized ?_ RXR29 (by decide) (by decide) (fun fs hr => retOut X22 hx Bd.returns rfl (Or.inr (Or.inr (Or.inr (Or.inr ⟨rfl, rfl, rfl⟩)))) (hb hby d12_23) hr)
  show Q_own_adN Z a wI wO wD h0 n0 _ T22.vm T22.heap _
  exact ⟨b1, rfl, N22, K31, cx32, f22_3, f22_4⟩
def Q_own_adR (Z : State) (a : Addr) (sp : Addr) (bl : Addr) (wI : Addr) (wO : Addr) (wD : Addr) (h0 : Heap) (n0 : Nat) (v : Option Value) (vm : Vm) (h : Heap) (L : List Loc) : Prop := ∃ b : Addr, v = some (.ref b) ∧ Fr n0 L ∧ Keep h0 h [] ∧ Exa Z h b "com/example/object_access_rules/objectaccessrules/Result" ∧ Fld Z h b "com/example/object_access_rules/objectaccessrules/Result" "step" "Ljava/lang/String;" (.ref sp) ∧ Fld Z h b "com/example/object_access_rules/objectaccessrules/Result" "below" "Lcom/example/object_access_rules/objectaccessrules/Result;" (.ref bl)
set_option maxRecDepth 65536 in
set_option maxHeartbeats 40000000 in
theorem own_adR (l : Launch) (Z : State) (a0 : Array Value) (hw : ∀ d ∈ tables_1, d.before a0 Z = true) (ws : List Jvm.Cond) (a : Addr) (sp : Addr) (bl : Addr) (wI : Addr) (wO : Addr) (wD : Addr) (h0 : Heap) (n0 : Nat) (O0 : Old Z n0 h0) (zf_S_com_example_object_access_rules_objectaccessrules_Decision_INDETERMINATE : Sta Z Z.heap "com/example/object_access_rules/objectaccessrules/Decision" "INDETERMINATE" "Lcom/example/object_access_rules/objectaccessrules/Decision;" (.ref wI)) (zf_S_com_example_object_access_rules_objectaccessrules_StatusCode_OK : Sta Z Z.heap "com/example/object_access_rules/objectaccessrules/StatusCode" "OK" "Lcom/example/object_access_rules/objectaccessrules/StatusCode;" (.ref wO)) (zf_S_com_example_object_access_rules_objectaccessrules_Decision_DENY : Sta Z Z.heap "com/example/object_access_rules/objectaccessrules/Decision" "DENY" "Lcom/example/object_access_rules/objectaccessrules/Decision;" (.ref wD)) (zf_E_wD : Exa Z Z.heap wD "com/example/object_access_rules/objectaccessrules/Decision") (zf_E_wO : Exa Z Z.heap wO "com/example/object_access_rules/objectaccessrules/StatusCode") (f0_F_a_step : Fld Z h0 a "com/example/object_access_rules/objectaccessrules/Result" "step" "Ljava/lang/String;" (.ref sp)) (f0_F_a_below : Fld Z h0 a "com/example/object_access_rules/objectaccessrules/Result" "below" "Lcom/example/object_access_rules/objectaccessrules/Result;" (.ref bl)) (hDI : ¬ (wD = wI)) :
    MetFree l mt9 (head1 (Jvm.Cond.code mt9 prog_37_method_14_code 1 (some (.object "com/example/object_access_rules/objectaccessrules/Result")) :: ws) ({ frames := 2, cells := 9, slots := 105, locals := 32 } : Room)) (fun aq U => aq = #[(.ref a)] ∧ Z.Warmed39 U.vm ∧ U.heap = h0 ∧ CHv Z own_EL U.vm h0 ∧ ∀ x ∈ ([] : List Addr), Safe Z own_EL U.vm h0 x) (fun _ _ _ _ _ => True) (fun _ U o U' => ∃ v L, o = .returned v ∧ Q_own_adR Z a sp bl wI wO wD h0 n0 v U'.vm U'.heap L ∧ CHr Z own_EL U.vm U.heap U'.vm U'.heap ∧ ReturnedEndW U o U' L ({ frames := 2, cells := 9, slots := 105, locals := 32 } : Room).cells ({ frames := 2, cells := 9, slots := 105, locals := 32 } : Room).slots) := by
  refine MetFree.of_bodySF (plainFor_of_name pn_com_example_object_access_rules_objectaccessrules_Result) hisR ?_
  intro p e s m args below meth c s₁ Bd hml0 hP hK
  obtain ⟨rfl, hZ, hh, hCH, hSL⟩ := hP
  have hx := Bd.exec
  have hby := Bd.bytes
  have hml : c.maxLocals = 1 := hml0
  have hown : s.vm.findClass "com/example/object_access_rules/objectaccessrules/Result" = some m.cls := findClass_of_methodNamed Bd.named
  have hnm := (name_of_methodNamed Bd.named Bd.method).1
  have X0 : Stand p l e ({ frames := 2, cells := 9, slots := 105, locals := 32 } : Room) (s.setVm s.vm) m #[(.ref a)] below meth c s₁ [] 0 0 := Stand.of_body Bd
  have e0 : s₁.heap = h0 := by rw [← hh, Bd.state]; rfl
  have N0 := Fr.nil n0
  have zO := O0.1
  have zO2 := O0.2.1
  have zl_E_wD : Z.heap.size > wD := zf_E_wD.lt
  have zl_E_wO : Z.heap.size > wO := zf_E_wO.lt
  have fl_F_a_step : h0.size > a := f0_F_a_step.lt
  have fl_F_a_below : h0.size > a := f0_F_a_below.lt
  refine own_open (own_via (S' := s₁.setTop (mkF m 0 #[.val (.ref a)] [])) (fun t k => castTop (ef_own_adR m a) k) ?_)
  have hEL := own_EW hw
  have hS0 : s.Since s.vm h0.size := (State.WarmedH.refl s).since _
  have R0 : CHr Z own_EL s.vm h0 s.vm h0 := CHr.refl hCH
  have K0 : Keep h0 h0 [] := Keep.refl _ _
  obtain ⟨T1, h1, X1, e1, E1, A1, D1, -, st1⟩ := newO X0 hx hZ hown (wd83 hw) (wd17 hw) (wd18 hw) e0 (g := (mkF m 0 #[.val (.ref a)] [])) rfl (hb hby d12_0) (by decide) (by decide)
  obtain ⟨b1, g1⟩ : ∃ z, z = h0.size := ⟨_, rfl⟩
  rw [← g1] at A1 D1 st1
  have lt_b1 : h1.size > b1 := A1.lt
  have sz2 : h0.size ≤ h1.size := E1.1
  have O3 : Old Z n0 h1 := O0.ext E1
  have R4 : CHr Z own_EL s.vm h0 s.vm h1 := R0.trans (CHr.ext E1 R0.1)
  have K5 : Keep h0 h1 [] := K0.ext E1
  have F1_decision : Fld Z h1 b1 "com/example/object_access_rules/objectaccessrules/Result" "decision" "Lcom/example/object_access_rules/objectaccessrules/Decision;" .null := D1 (Or.inr (wd36 hw)) (ty := (.object "com/example/object_access_rules/objectaccessrules/Decision")) (by decide)
  have F1_status : Fld Z h1 b1 "com/example/object_access_rules/objectaccessrules/Result" "status" "Lcom/example/object_access_rules/objectaccessrules/StatusCode;" .null := D1 (Or.inr (wd41 hw)) (ty := (.object "com/example/object_access_rules/objectaccessrules/StatusCode")) (by decide)
  have F1_message : Fld Z h1 b1 "com/example/object_access_rules/objectaccessrules/Result" "message" "Ljava/lang/String;" .null := D1 (Or.inr (wd46 hw)) (ty := (.object "java/lang/String")) (by decide)
  have F1_step : Fld Z h1 b1 "com/example/object_access_rules/objectaccessrules/Result" "step" "Ljava/lang/String;" .null := D1 (Or.inr (wd56 hw)) (ty := (.object "java/lang/String")) (by decide)
  have F1_below : Fld Z h1 b1 "com/example/object_access_rules/objectaccessrules/Result" "below" "Lcom/example/object_access_rules/objectaccessrules/Result;" .null := D1 (Or.inr (wd58 hw)) (ty := (.object "com/example/object_access_rules/objectaccessrules/Result")) (by decide)
  refine own_via (S' := T1.setTop (mkF m 3 #[.val (.ref a)] [(.ref b1)])) st1 ?_
  refine own_via (S' := T1.setTop (mkF m 4 #[.val (.ref a)] [(.ref b1), (.ref b1)])) (fun t k => XS.dup X1.here hx rfl (hb hby d12_3) rfl rfl k) ?_
  have cx6 : Sta Z h1 "com/example/object_access_rules/objectaccessrules/Decision" "DENY" "Lcom/example/object_access_rules/objectaccessrules/Decision;" (.ref wD) := zf_S_com_example_object_access_rules_objectaccessrules_Decision_DENY.ext O3.2
  obtain ⟨T7, X7, e7, st7⟩ := getS2 X1 hx hZ hown (host := "") (Or.inl (wd94 hw)) Via.refl e1 cx6 (g := (mkF m 4 #[.val (.ref a)] [(.ref b1), (.ref b1)])) rfl (hb hby d12_4)
  refine own_via (S' := T7.setTop (mkF m 7 #[.val (.ref a)] [(.ref wD), (.ref b1), (.ref b1)])) st7 ?_
  have cx8 : Sta Z h1 "com/example/object_access_rules/objectaccessrules/StatusCode" "OK" "Lcom/example/object_access_rules/objectaccessrules/StatusCode;" (.ref wO) := zf_S_com_example_object_access_rules_objectaccessrules_StatusCode_OK.ext O3.2
  obtain ⟨T9, X9, e9, st9⟩ := getS2 X7 hx hZ hown (host := "") (Or.inl (wd48 hw)) Via.refl e7 cx8 (g := (mkF m 7 #[.val (.ref a)] [(.ref wD), (.ref b1), (.ref b1)])) rfl (hb hby d12_7)
  refine own_via (S' := T9.setTop (mkF m 10 #[.val (.ref a)] [(.ref wO), (.ref wD), (.ref b1), (.ref b1)])) st9 ?_
  obtain ⟨b10, T10, h10, kk10, t10, kb10, X10, e10, E10, hS10, hk10, hZ, hown, f10_0, f10_1, f10_2, f10_3, lta10, ltb10, R10q, hLit10, hsn10, st10⟩ := ldcCH X9 hx hZ hown (wd96 hw) (own_wS hw) e9 hS0 (by omega) hEL (List.mem_of_getElem? (i := 0) rfl) R4.1 (vs := []) (z := (0 : Int32)) ⟨by decide, rfl⟩ (by decide) rfl (g := (mkF m 10 #[.val (.ref a)] [(.ref wO), (.ref wD), (.ref b1), (.ref b1)])) rfl (hb hby d12_10) (n := 0) (by decide) (by decide) (by decide) (by decide)
  have sz11 : h1.size ≤ h10.size := E10.1
  have O12 : Old Z n0 h10 := O3.ext E10
  have R13 : CHr Z own_EL s.vm h0 T10.vm h10 := R4.trans R10q
  have K14 : Keep h0 h10 [] := K5.ext E10
  have lt_b10 : h10.size > b10 := lta10
  have lt_t10 : h10.size > t10 := ltb10
  have cx15 : Exa Z h10 wD "com/example/object_access_rules/objectaccessrules/Decision" := zf_E_wD.ext O12.2
  have ne_wD_b10 : wD ≠ b10 := (hsn10 _ (Safe.exa hZ.alike cx15 (by decide) (by decide))).1
  have ne_wD_t10 : wD ≠ t10 := (hsn10 _ (Safe.exa hZ.alike cx15 (by decide) (by decide))).2
  have cx16 : Exa Z h10 wO "com/example/object_access_rules/objectaccessrules/StatusCode" := zf_E_wO.ext O12.2
  have ne_wO_b10 : wO ≠ b10 := (hsn10 _ (Safe.exa hZ.alike cx16 (by decide) (by decide))).1
  have ne_wO_t10 : wO ≠ t10 := (hsn10 _ (Safe.exa hZ.alike cx16 (by decide) (by decide))).2
  have cx17 : Exa Z h10 b1 "com/example/object_access_rules/objectaccessrules/Result" := (A1.ext E10)
  have ne_b1_b10 : b1 ≠ b10 := (hsn10 _ (Safe.exa hZ.alike cx17 (by decide) (by decide))).1
  have ne_b1_t10 : b1 ≠ t10 := (hsn10 _ (Safe.exa hZ.alike cx17 (by decide) (by decide))).2
  refine own_via (S' := T10.setTop (mkF m 12 #[.val (.ref a)] [(.ref b10), (.ref wO), (.ref wD), (.ref b1), (.ref b1)])) st10 ?_
  refine own_via (S' := T10.setTop (mkF m 13 #[.val (.ref a)] [(.ref a), (.ref b10), (.ref wO), (.ref wD), (.ref b1), (.ref b1)])) (fun t k => XS.aloadN X10.here hx rfl (hb hby d12_12) rfl rfl k) ?_
  have cx18 : Fld Z h10 a "com/example/object_access_rules/objectaccessrules/Result" "step" "Ljava/lang/String;" (.ref sp) := ((f0_F_a_step.ext E1).ext E10)
  obtain ⟨T19, X19, e19, st19⟩ := getF X10 hx hZ hown (host := "") (Or.inl (wd55 hw)) Via.refl e10 cx18 (g := (mkF m 13 #[.val (.ref a)] [(.ref a), (.ref b10), (.ref wO), (.ref wD), (.ref b1), (.ref b1)])) rfl rfl (hb hby d12_13)
  refine own_via (S' := T19.setTop (mkF m 16 #[.val (.ref a)] [(.ref sp), (.ref b10), (.ref wO), (.ref wD), (.ref b1), (.ref b1)])) st19 ?_
  refine own_via (S' := T19.setTop (mkF m 17 #[.val (.ref a)] [(.ref a), (.ref sp), (.ref b10), (.ref wO), (.ref wD), (.ref b1), (.ref b1)])) (fun t k => XS.aloadN X19.here hx rfl (hb hby d12_16) rfl rfl k) ?_
  have cx20 : Fld Z h10 a "com/example/object_access_rules/objectaccessrules/Result" "below" "Lcom/example/object_access_rules/objectaccessrules/Result;" (.ref bl) := ((f0_F_a_below.ext E1).ext E10)
  obtain ⟨T21, X21, e21, st21⟩ := getF X19 hx hZ hown (host := "") (Or.inl (wd57 hw)) Via.refl e19 cx20 (g := (mkF m 17 #[.val (.ref a)] [(.ref a), (.ref sp), (.ref b10), (.ref wO), (.ref wD), (.ref b1), (.ref b1)])) rfl rfl (hb hby d12_17)
  refine own_via (S' := T21.setTop (mkF m 20 #[.val (.ref a)] [(.ref bl), (.ref sp), (.ref b10), (.ref wO), (.ref wD), (.ref b1), (.ref b1)])) st21 ?_
  have cx23 : Fld Z h10 b1 "com/example/object_access_rules/objectaccessrules/Result" "decision" "Lcom/example/object_access_rules/objectaccessrules/Decision;" .null := (F1_decision.ext E10)
  have cx24 : Fld Z h10 b1 "com/example/object_access_rules/objectaccessrules/Result" "status" "Lcom/example/object_access_rules/objectaccessrules/StatusCode;" .null := (F1_status.ext E10)
  have cx25 : Fld Z h10 b1 "com/example/object_access_rules/objectaccessrules/Result" "message" "Ljava/lang/String;" .null := (F1_message.ext E10)
  have cx26 : Fld Z h10 b1 "com/example/object_access_rules/objectaccessrules/Result" "step" "Ljava/lang/String;" .null := (F1_step.ext E10)
  have cx27 : Fld Z h10 b1 "com/example/object_access_rules/objectaccessrules/Result" "below" "Lcom/example/object_access_rules/objectaccessrules/Result;" .null := (F1_below.ext E10)
  have hk22 : kk10 ≤ T21.heap.size := by rw [e21]; omega
  obtain ⟨_, _, ⟨T22, Lp22, kp22, np22⟩, -, X22, hS22, hgr22, ⟨Lc22, ⟨hQ22, R22q⟩, l22, y22, z22⟩, st22⟩ := X21.specialBackS hx (y := mt2) rfl hown (mvT hZ (wd22 hw)) (mvT hZ (wd23 hw)) (mvT hZ (wd24 hw)) (by decide) (own_backW (SL := []) (W := 1) (own_r5R l Z a0 hw [] b1 wD wO b10 sp bl t10 kb10 (0 : Int32) [] wI wO h10 n0 O12 zf_S_com_example_object_access_rules_objectaccessrules_Decision_INDETERMINATE zf_S_com_example_object_access_rules_objectaccessrules_StatusCode_OK cx17 cx23 cx24 cx25 cx26 cx27 cx15 cx16 f10_0 f10_2 f10_3 (by omega) (Or.inr ⟨hDI, rfl, rfl⟩)) hZ (wd24 hw) (wd18 hw) (by decide) (by decide) hEL R13.1 all0) (g := (mkF m 20 #[.val (.ref a)] [(.ref bl), (.ref sp), (.ref b10), (.ref wO), (.ref wD), (.ref b1), (.ref b1)])) rfl (by rw [hml]; rfl) (Steps.refl _) (a := b1) (argsL := [(.ref wD), (.ref wO), (.ref b10), (.ref sp), (.ref bl)]) (rest := [(.ref b1)]) (lenOf pd__Lcom_example_object_access_rules_objectaccessrules_Decision_Lcom_example_object_access_rules_objectaccessrules_StatusCode_Ljava_lang_String_Ljava_lang_String_Lcom_example_object_access_rules_objectaccessrules_Result__V_1701 rfl) rfl (by show 2 * 0 + _ ≤ _; exact Nat.le_of_eq rfl) (hb hby d12_20) (fun _ _ => ⟨rfl, e21, (by decide : 3 + 6 ≤ _), (by decide : 9 + 96 ≤ _)⟩)
  dsimp only [Pt.U, Pt.locs, Pt.cells, Pt.slots] at X22 l22 y22 z22 st22 hQ22 hS22 hgr22 R22q
  subst Lp22 kp22 np22
  obtain ⟨X22, hSn22, hZ, hown⟩ := rebS hS10 hk22 X22 hS22 hgr22 hZ hown
  obtain ⟨rfl, N22q, K22q, f22_0, f22_1, f22_2, f22_3, f22_4⟩ := hQ22
  have N22 := Fr.app N0 N22q
  have sz28 : h10.size ≤ T22.heap.size := K22q.1
  have R29 : CHr Z own_EL s.vm h0 T22.vm T22.heap := R13.trans R22q
  have O30 : Old Z n0 T22.heap := O12.keep K22q (allS (by omega : n0 ≤ b1) all0)
  have K31 : Keep h0 T22.heap [] := K14.trans K22q (allS (P := fun x => x ∈ [] ∨ h0.size ≤ x) (Or.inr (by omega)) all0)
  refine own_tr (S' := T22.setTop (mkF m 23 #[.val (.ref a)] [(.ref b1)])) st22 ?_
  have cx32 : Exa Z T22.heap b1 "com/example/object_access_rules/objectaccessrules/Result" := (cx17.keep K22q)
  have RTR29 : CHr Z own_EL s.vm h0 T22.vm T22.heap := R29.trans (CHv.at X22 hZ hEL R29.1)
  have RXR29 : CHr Z own_EL s.vm s.heap T22.vm T22.heap := by rw [hh]; exact RTR29
  refine own_retW (Q := Q_own_adR Z a sp bl wI wO wD h0 n0) (C := ({ frames := 2, cells := 9, slots := 105, locals := 32 } : Room).cells) (N := ({ frames := 2, cells := 9, slots := 105, locals := 32 } : Room).slots) X22 hSn22 (by omega) (v := some (.ref b1)) (fun h => by rw [Bd.returns] at h; cases h) Bd.notSynchronized ?_ RXR29 (by decide) (by decide) (fun fs hr => retOut X22 hx Bd.returns rfl (Or.inr (Or.inr (Or.inr (Or.inr ⟨rfl, rfl, rfl⟩)))) (hb hby d12_23) hr)
  show Q_own_adR Z a sp bl wI wO wD h0 n0 _ T22.vm T22.heap _
  exact ⟨b1, rfl, N22, K31, cx32, f22_3, f22_4⟩
def Q_own_og0 (Z : State) (a : Addr) (h0 : Heap) (n0 : Nat) (v : Option Value) (h : Heap) (L : List Loc) : Prop := v = some (.ref a) ∧ L = [] ∧ h = h0
set_option maxRecDepth 65536 in
set_option maxHeartbeats 40000000 in
theorem own_og0 (l : Launch) (Z : State) (a0 : Array Value) (hw : ∀ d ∈ tables_1, d.before a0 Z = true) (ws : List Jvm.Cond) (a : Addr) (h0 : Heap) (n0 : Nat) (O0 : Old Z n0 h0) (f0_F_a_below : Fld Z h0 a "com/example/object_access_rules/objectaccessrules/Result" "below" "Lcom/example/object_access_rules/objectaccessrules/Result;" .null) :
    MetFree l mt10 (head1 (Jvm.Cond.code mt10 prog_37_method_12_code 2 (some (.object "com/example/object_access_rules/objectaccessrules/Result")) :: ws) ({ frames := 0, cells := 0, slots := 0, locals := 0 } : Room)) (fun aq U => aq = #[(.ref a)] ∧ Z.Warmed39 U.vm ∧ U.heap = h0) (fun _ _ _ _ _ => True) (fun _ U o U' => ∃ v L, o = .returned v ∧ Q_own_og0 Z a h0 n0 v U'.heap L ∧ FrameEnd U o U' L ({ frames := 0, cells := 0, slots := 0, locals := 0 } : Room).cells ({ frames := 0, cells := 0, slots := 0, locals := 0 } : Room).slots) := by
  refine MetFree.of_bodySF (plainFor_of_name pn_com_example_object_access_rules_objectaccessrules_Result) hisR ?_
  intro p e s m args below meth c s₁ Bd hml0 hP hK
  obtain ⟨rfl, hZ, hh⟩ := hP
  have hx := Bd.exec
  have hby := Bd.bytes
  have hml : c.maxLocals = 2 := hml0
  have hown : s.vm.findClass "com/example/object_access_rules/objectaccessrules/Result" = some m.cls := findClass_of_methodNamed Bd.named
  have hnm := (name_of_methodNamed Bd.named Bd.method).1
  have X0 : Stand p l e ({ frames := 0, cells := 0, slots := 0, locals := 0 } : Room) s m #[(.ref a)] below meth c s₁ [] 0 0 := Stand.of_body Bd
  have e0 : s₁.heap = h0 := by rw [← hh, Bd.state]; rfl
  have N0 := Fr.nil n0
  have zO := O0.1
  have zO2 := O0.2.1
  have fl_F_a_below : h0.size > a := f0_F_a_below.lt
  refine own_open (own_via (S' := s₁.setTop (mkF m 0 #[.val (.ref a), .unset] [])) (fun t k => castTop (ef_own_og0 m a) k) ?_)
  refine own_via (S' := s₁.setTop (mkF m 1 #[.val (.ref a), .unset] [(.ref a)])) (fun t k => XS.aloadN X0.here hx rfl (hb hby d11_0) rfl rfl k) ?_
  refine own_via (S' := s₁.setTop (mkF m 2 #[.val (.ref a), .val (.ref a)] [])) (fun t k => XS.astoreN X0.here hx rfl (hb hby d11_1) rfl rfl (l' := #[.val (.ref a), .val (.ref a)]) rfl k) ?_
  refine own_via (S' := s₁.setTop (mkF m 3 #[.val (.ref a), .val (.ref a)] [(.ref a)])) (fun t k => XS.aloadN X0.here hx rfl (hb hby d11_2) rfl rfl k) ?_
  obtain ⟨T1, X1, e1, st1⟩ := getF X0 hx hZ hown (host := "") (Or.inl (wd57 hw)) Via.refl e0 f0_F_a_below (g := (mkF m 3 #[.val (.ref a), .val (.ref a)] [(.ref a)])) rfl rfl (hb hby d11_3)
  refine own_via (S' := T1.setTop (mkF m 6 #[.val (.ref a), .val (.ref a)] [.null])) st1 ?_
  refine own_via (S' := T1.setTop (mkF m 17 #[.val (.ref a), .val (.ref a)] [])) (fun t k => XS.ifnullYes X1.here hx rfl (pc0 := 6) (pc' := 17) rfl (hb hby d11_6) rfl (by decide) (by decide) k) ?_
  refine own_via (S' := T1.setTop (mkF m 18 #[.val (.ref a), .val (.ref a)] [(.ref a)])) (fun t k => XS.aloadN X1.here hx rfl (hb hby d11_17) rfl rfl k) ?_
  refine own_ret (Q := Q_own_og0 Z a h0 n0) (C := ({ frames := 0, cells := 0, slots := 0, locals := 0 } : Room).cells) (N := ({ frames := 0, cells := 0, slots := 0, locals := 0 } : Room).slots) X1 (v := some (.ref a)) (fun h => by rw [Bd.returns] at h; cases h) Bd.notSynchronized ?_ (by decide) (by decide) (fun fs hr => retOut X1 hx Bd.returns rfl (Or.inr (Or.inr (Or.inr (Or.inr ⟨rfl, rfl, rfl⟩)))) (hb hby d11_18) hr)
  show Q_own_og0 Z a h0 n0 _ T1.heap _
  rw [e1]
  exact ⟨rfl, rfl, rfl⟩
def Q_own_og1 (Z : State) (a : Addr) (b1 : Addr) (h0 : Heap) (n0 : Nat) (v : Option Value) (h : Heap) (L : List Loc) : Prop := v = some (.ref b1) ∧ L = [] ∧ h = h0
set_option maxRecDepth 65536 in
set_option maxHeartbeats 40000000 in
theorem own_og1 (l : Launch) (Z : State) (a0 : Array Value) (hw : ∀ d ∈ tables_1, d.before a0 Z = true) (ws : List Jvm.Cond) (a : Addr) (b1 : Addr) (h0 : Heap) (n0 : Nat) (O0 : Old Z n0 h0) (f0_F_a_below : Fld Z h0 a "com/example/object_access_rules/objectaccessrules/Result" "below" "Lcom/example/object_access_rules/objectaccessrules/Result;" (.ref b1)) (f0_F_b1_below : Fld Z h0 b1 "com/example/object_access_rules/objectaccessrules/Result" "below" "Lcom/example/object_access_rules/objectaccessrules/Result;" .null) :
    MetFree l mt10 (head1 (Jvm.Cond.code mt10 prog_37_method_12_code 2 (some (.object "com/example/object_access_rules/objectaccessrules/Result")) :: ws) ({ frames := 0, cells := 0, slots := 0, locals := 0 } : Room)) (fun aq U => aq = #[(.ref a)] ∧ Z.Warmed39 U.vm ∧ U.heap = h0) (fun _ _ _ _ _ => True) (fun _ U o U' => ∃ v L, o = .returned v ∧ Q_own_og1 Z a b1 h0 n0 v U'.heap L ∧ FrameEnd U o U' L ({ frames := 0, cells := 0, slots := 0, locals := 0 } : Room).cells ({ frames := 0, cells := 0, slots := 0, locals := 0 } : Room).slots) := by
  refine MetFree.of_bodySF (plainFor_of_name pn_com_example_object_access_rules_objectaccessrules_Result) hisR ?_
  intro p e s m args below meth c s₁ Bd hml0 hP hK
  obtain ⟨rfl, hZ, hh⟩ := hP
  have hx := Bd.exec
  have hby := Bd.bytes
  have hml : c.maxLocals = 2 := hml0
  have hown : s.vm.findClass "com/example/object_access_rules/objectaccessrules/Result" = some m.cls := findClass_of_methodNamed Bd.named
  have hnm := (name_of_methodNamed Bd.named Bd.method).1
  have X0 : Stand p l e ({ frames := 0, cells := 0, slots := 0, locals := 0 } : Room) s m #[(.ref a)] below meth c s₁ [] 0 0 := Stand.of_body Bd
  have e0 : s₁.heap = h0 := by rw [← hh, Bd.state]; rfl
  have N0 := Fr.nil n0
  have zO := O0.1
  have zO2 := O0.2.1
  have fl_F_a_below : h0.size > a := f0_F_a_below.lt
  have fl_F_b1_below : h0.size > b1 := f0_F_b1_below.lt
  refine own_open (own_via (S' := s₁.setTop (mkF m 0 #[.val (.ref a), .unset] [])) (fun t k => castTop (ef_own_og1 m a) k) ?_)
  refine own_via (S' := s₁.setTop (mkF m 1 #[.val (.ref a), .unset] [(.ref a)])) (fun t k => XS.aloadN X0.here hx rfl (hb hby d11_0) rfl rfl k) ?_
  refine own_via (S' := s₁.setTop (mkF m 2 #[.val (.ref a), .val (.ref a)] [])) (fun t k => XS.astoreN X0.here hx rfl (hb hby d11_1) rfl rfl (l' := #[.val (.ref a), .val (.ref a)]) rfl k) ?_
  refine own_via (S' := s₁.setTop (mkF m 3 #[.val (.ref a), .val (.ref a)] [(.ref a)])) (fun t k => XS.aloadN X0.here hx rfl (hb hby d11_2) rfl rfl k) ?_
  obtain ⟨T1, X1, e1, st1⟩ := getF X0 hx hZ hown (host := "") (Or.inl (wd57 hw)) Via.refl e0 f0_F_a_below (g := (mkF m 3 #[.val (.ref a), .val (.ref a)] [(.ref a)])) rfl rfl (hb hby d11_3)
  refine own_via (S' := T1.setTop (mkF m 6 #[.val (.ref a), .val (.ref a)] [(.ref b1)])) st1 ?_
  refine own_via (S' := T1.setTop (mkF m 9 #[.val (.ref a), .val (.ref a)] [])) (fun t k => XS.ifnullNo X1.here hx rfl (hb hby d11_6) rfl k) ?_
  refine own_via (S' := T1.setTop (mkF m 10 #[.val (.ref a), .val (.ref a)] [(.ref a)])) (fun t k => XS.aloadN X1.here hx rfl (hb hby d11_9) rfl rfl k) ?_
  obtain ⟨T2, X2, e2, st2⟩ := getF X1 hx hZ hown (host := "") (Or.inl (wd57 hw)) Via.refl e1 f0_F_a_below (g := (mkF m 10 #[.val (.ref a), .val (.ref a)] [(.ref a)])) rfl rfl (hb hby d11_10)
  refine own_via (S' := T2.setTop (mkF m 13 #[.val (.ref a), .val (.ref a)] [(.ref b1)])) st2 ?_
  refine own_via (S' := T2.setTop (mkF m 14 #[.val (.ref a), .val (.ref b1)] [])) (fun t k => XS.astoreN X2.here hx rfl (hb hby d11_13) rfl rfl (l' := #[.val (.ref a), .val (.ref b1)]) rfl k) ?_
  refine own_via (S' := T2.setTop (mkF m 2 #[.val (.ref a), .val (.ref b1)] [])) (fun t k => XS.goto X2.here hx rfl (pc0 := 14) (pc' := 2) rfl (hb hby d11_14) (by decide) (by decide) k) ?_
  refine own_via (S' := T2.setTop (mkF m 3 #[.val (.ref a), .val (.ref b1)] [(.ref b1)])) (fun t k => XS.aloadN X2.here hx rfl (hb hby d11_2) rfl rfl k) ?_
  obtain ⟨T3, X3, e3, st3⟩ := getF X2 hx hZ hown (host := "") (Or.inl (wd57 hw)) Via.refl e2 f0_F_b1_below (g := (mkF m 3 #[.val (.ref a), .val (.ref b1)] [(.ref b1)])) rfl rfl (hb hby d11_3)
  refine own_via (S' := T3.setTop (mkF m 6 #[.val (.ref a), .val (.ref b1)] [.null])) st3 ?_
  refine own_via (S' := T3.setTop (mkF m 17 #[.val (.ref a), .val (.ref b1)] [])) (fun t k => XS.ifnullYes X3.here hx rfl (pc0 := 6) (pc' := 17) rfl (hb hby d11_6) rfl (by decide) (by decide) k) ?_
  refine own_via (S' := T3.setTop (mkF m 18 #[.val (.ref a), .val (.ref b1)] [(.ref b1)])) (fun t k => XS.aloadN X3.here hx rfl (hb hby d11_17) rfl rfl k) ?_
  refine own_ret (Q := Q_own_og1 Z a b1 h0 n0) (C := ({ frames := 0, cells := 0, slots := 0, locals := 0 } : Room).cells) (N := ({ frames := 0, cells := 0, slots := 0, locals := 0 } : Room).slots) X3 (v := some (.ref b1)) (fun h => by rw [Bd.returns] at h; cases h) Bd.notSynchronized ?_ (by decide) (by decide) (fun fs hr => retOut X3 hx Bd.returns rfl (Or.inr (Or.inr (Or.inr (Or.inr ⟨rfl, rfl, rfl⟩)))) (hb hby d11_18) hr)
  show Q_own_og1 Z a b1 h0 n0 _ T3.heap _
  rw [e3]
  exact ⟨rfl, rfl, rfl⟩
def Q_own_og2 (Z : State) (a : Addr) (b1 : Addr) (b2 : Addr) (h0 : Heap) (n0 : Nat) (v : Option Value) (h : Heap) (L : List Loc) : Prop := v = some (.ref b2) ∧ L = [] ∧ h = h0
set_option maxRecDepth 65536 in
set_option maxHeartbeats 40000000 in
theorem own_og2 (l : Launch) (Z : State) (a0 : Array Value) (hw : ∀ d ∈ tables_1, d.before a0 Z = true) (ws : List Jvm.Cond) (a : Addr) (b1 : Addr) (b2 : Addr) (h0 : Heap) (n0 : Nat) (O0 : Old Z n0 h0) (f0_F_a_below : Fld Z h0 a "com/example/object_access_rules/objectaccessrules/Result" "below" "Lcom/example/object_access_rules/objectaccessrules/Result;" (.ref b1)) (f0_F_b1_below : Fld Z h0 b1 "com/example/object_access_rules/objectaccessrules/Result" "below" "Lcom/example/object_access_rules/objectaccessrules/Result;" (.ref b2)) (f0_F_b2_below : Fld Z h0 b2 "com/example/object_access_rules/objectaccessrules/Result" "below" "Lcom/example/object_access_rules/objectaccessrules/Result;" .null) :
    MetFree l mt10 (head1 (Jvm.Cond.code mt10 prog_37_method_12_code 2 (some (.object "com/example/object_access_rules/objectaccessrules/Result")) :: ws) ({ frames := 0, cells := 0, slots := 0, locals := 0 } : Room)) (fun aq U => aq = #[(.ref a)] ∧ Z.Warmed39 U.vm ∧ U.heap = h0) (fun _ _ _ _ _ => True) (fun _ U o U' => ∃ v L, o = .returned v ∧ Q_own_og2 Z a b1 b2 h0 n0 v U'.heap L ∧ FrameEnd U o U' L ({ frames := 0, cells := 0, slots := 0, locals := 0 } : Room).cells ({ frames := 0, cells := 0, slots := 0, locals := 0 } : Room).slots) := by
  refine MetFree.of_bodySF (plainFor_of_name pn_com_example_object_access_rules_objectaccessrules_Result) hisR ?_
  intro p e s m args below meth c s₁ Bd hml0 hP hK
  obtain ⟨rfl, hZ, hh⟩ := hP
  have hx := Bd.exec
  have hby := Bd.bytes
  have hml : c.maxLocals = 2 := hml0
  have hown : s.vm.findClass "com/example/object_access_rules/objectaccessrules/Result" = some m.cls := findClass_of_methodNamed Bd.named
  have hnm := (name_of_methodNamed Bd.named Bd.method).1
  have X0 : Stand p l e ({ frames := 0, cells := 0, slots := 0, locals := 0 } : Room) s m #[(.ref a)] below meth c s₁ [] 0 0 := Stand.of_body Bd
  have e0 : s₁.heap = h0 := by rw [← hh, Bd.state]; rfl
  have N0 := Fr.nil n0
  have zO := O0.1
  have zO2 := O0.2.1
  have fl_F_a_below : h0.size > a := f0_F_a_below.lt
  have fl_F_b1_below : h0.size > b1 := f0_F_b1_below.lt
  have fl_F_b2_below : h0.size > b2 := f0_F_b2_below.lt
  refine own_open (own_via (S' := s₁.setTop (mkF m 0 #[.val (.ref a), .unset] [])) (fun t k => castTop (ef_own_og2 m a) k) ?_)
  refine own_via (S' := s₁.setTop (mkF m 1 #[.val (.ref a), .unset] [(.ref a)])) (fun t k => XS.aloadN X0.here hx rfl (hb hby d11_0) rfl rfl k) ?_
  refine own_via (S' := s₁.setTop (mkF m 2 #[.val (.ref a), .val (.ref a)] [])) (fun t k => XS.astoreN X0.here hx rfl (hb hby d11_1) rfl rfl (l' := #[.val (.ref a), .val (.ref a)]) rfl k) ?_
  refine own_via (S' := s₁.setTop (mkF m 3 #[.val (.ref a), .val (.ref a)] [(.ref a)])) (fun t k => XS.aloadN X0.here hx rfl (hb hby d11_2) rfl rfl k) ?_
  obtain ⟨T1, X1, e1, st1⟩ := getF X0 hx hZ hown (host := "") (Or.inl (wd57 hw)) Via.refl e0 f0_F_a_below (g := (mkF m 3 #[.val (.ref a), .val (.ref a)] [(.ref a)])) rfl rfl (hb hby d11_3)
  refine own_via (S' := T1.setTop (mkF m 6 #[.val (.ref a), .val (.ref a)] [(.ref b1)])) st1 ?_
  refine own_via (S' := T1.setTop (mkF m 9 #[.val (.ref a), .val (.ref a)] [])) (fun t k => XS.ifnullNo X1.here hx rfl (hb hby d11_6) rfl k) ?_
  refine own_via (S' := T1.setTop (mkF m 10 #[.val (.ref a), .val (.ref a)] [(.ref a)])) (fun t k => XS.aloadN X1.here hx rfl (hb hby d11_9) rfl rfl k) ?_
  obtain ⟨T2, X2, e2, st2⟩ := getF X1 hx hZ hown (host := "") (Or.inl (wd57 hw)) Via.refl e1 f0_F_a_below (g := (mkF m 10 #[.val (.ref a), .val (.ref a)] [(.ref a)])) rfl rfl (hb hby d11_10)
  refine own_via (S' := T2.setTop (mkF m 13 #[.val (.ref a), .val (.ref a)] [(.ref b1)])) st2 ?_
  refine own_via (S' := T2.setTop (mkF m 14 #[.val (.ref a), .val (.ref b1)] [])) (fun t k => XS.astoreN X2.here hx rfl (hb hby d11_13) rfl rfl (l' := #[.val (.ref a), .val (.ref b1)]) rfl k) ?_
  refine own_via (S' := T2.setTop (mkF m 2 #[.val (.ref a), .val (.ref b1)] [])) (fun t k => XS.goto X2.here hx rfl (pc0 := 14) (pc' := 2) rfl (hb hby d11_14) (by decide) (by decide) k) ?_
  refine own_via (S' := T2.setTop (mkF m 3 #[.val (.ref a), .val (.ref b1)] [(.ref b1)])) (fun t k => XS.aloadN X2.here hx rfl (hb hby d11_2) rfl rfl k) ?_
  obtain ⟨T3, X3, e3, st3⟩ := getF X2 hx hZ hown (host := "") (Or.inl (wd57 hw)) Via.refl e2 f0_F_b1_below (g := (mkF m 3 #[.val (.ref a), .val (.ref b1)] [(.ref b1)])) rfl rfl (hb hby d11_3)
  refine own_via (S' := T3.setTop (mkF m 6 #[.val (.ref a), .val (.ref b1)] [(.ref b2)])) st3 ?_
  refine own_via (S' := T3.setTop (mkF m 9 #[.val (.ref a), .val (.ref b1)] [])) (fun t k => XS.ifnullNo X3.here hx rfl (hb hby d11_6) rfl k) ?_
  refine own_via (S' := T3.setTop (mkF m 10 #[.val (.ref a), .val (.ref b1)] [(.ref b1)])) (fun t k => XS.aloadN X3.here hx rfl (hb hby d11_9) rfl rfl k) ?_
  obtain ⟨T4, X4, e4, st4⟩ := getF X3 hx hZ hown (host := "") (Or.inl (wd57 hw)) Via.refl e3 f0_F_b1_below (g := (mkF m 10 #[.val (.ref a), .val (.ref b1)] [(.ref b1)])) rfl rfl (hb hby d11_10)
  refine own_via (S' := T4.setTop (mkF m 13 #[.val (.ref a), .val (.ref b1)] [(.ref b2)])) st4 ?_
  refine own_via (S' := T4.setTop (mkF m 14 #[.val (.ref a), .val (.ref b2)] [])) (fun t k => XS.astoreN X4.here hx rfl (hb hby d11_13) rfl rfl (l' := #[.val (.ref a), .val (.ref b2)]) rfl k) ?_
  refine own_via (S' := T4.setTop (mkF m 2 #[.val (.ref a), .val (.ref b2)] [])) (fun t k => XS.goto X4.here hx rfl (pc0 := 14) (pc' := 2) rfl (hb hby d11_14) (by decide) (by decide) k) ?_
  refine own_via (S' := T4.setTop (mkF m 3 #[.val (.ref a), .val (.ref b2)] [(.ref b2)])) (fun t k => XS.aloadN X4.here hx rfl (hb hby d11_2) rfl rfl k) ?_
  obtain ⟨T5, X5, e5, st5⟩ := getF X4 hx hZ hown (host := "") (Or.inl (wd57 hw)) Via.refl e4 f0_F_b2_below (g := (mkF m 3 #[.val (.ref a), .val (.ref b2)] [(.ref b2)])) rfl rfl (hb hby d11_3)
  refine own_via (S' := T5.setTop (mkF m 6 #[.val (.ref a), .val (.ref b2)] [.null])) st5 ?_
  refine own_via (S' := T5.setTop (mkF m 17 #[.val (.ref a), .val (.ref b2)] [])) (fun t k => XS.ifnullYes X5.here hx rfl (pc0 := 6) (pc' := 17) rfl (hb hby d11_6) rfl (by decide) (by decide) k) ?_
  refine own_via (S' := T5.setTop (mkF m 18 #[.val (.ref a), .val (.ref b2)] [(.ref b2)])) (fun t k => XS.aloadN X5.here hx rfl (hb hby d11_17) rfl rfl k) ?_
  refine own_ret (Q := Q_own_og2 Z a b1 b2 h0 n0) (C := ({ frames := 0, cells := 0, slots := 0, locals := 0 } : Room).cells) (N := ({ frames := 0, cells := 0, slots := 0, locals := 0 } : Room).slots) X5 (v := some (.ref b2)) (fun h => by rw [Bd.returns] at h; cases h) Bd.notSynchronized ?_ (by decide) (by decide) (fun fs hr => retOut X5 hx Bd.returns rfl (Or.inr (Or.inr (Or.inr (Or.inr ⟨rfl, rfl, rfl⟩)))) (hb hby d11_18) hr)
  show Q_own_og2 Z a b1 b2 h0 n0 _ T5.heap _
  rw [e5]
  exact ⟨rfl, rfl, rfl⟩
def Q_own_og3 (Z : State) (a : Addr) (b1 : Addr) (b2 : Addr) (b3 : Addr) (h0 : Heap) (n0 : Nat) (v : Option Value) (h : Heap) (L : List Loc) : Prop := v = some (.ref b3) ∧ L = [] ∧ h = h0
set_option maxRecDepth 65536 in
set_option maxHeartbeats 40000000 in
theorem own_og3 (l : Launch) (Z : State) (a0 : Array Value) (hw : ∀ d ∈ tables_1, d.before a0 Z = true) (ws : List Jvm.Cond) (a : Addr) (b1 : Addr) (b2 : Addr) (b3 : Addr) (h0 : Heap) (n0 : Nat) (O0 : Old Z n0 h0) (f0_F_a_below : Fld Z h0 a "com/example/object_access_rules/objectaccessrules/Result" "below" "Lcom/example/object_access_rules/objectaccessrules/Result;" (.ref b1)) (f0_F_b1_below : Fld Z h0 b1 "com/example/object_access_rules/objectaccessrules/Result" "below" "Lcom/example/object_access_rules/objectaccessrules/Result;" (.ref b2)) (f0_F_b2_below : Fld Z h0 b2 "com/example/object_access_rules/objectaccessrules/Result" "below" "Lcom/example/object_access_rules/objectaccessrules/Result;" (.ref b3)) (f0_F_b3_below : Fld Z h0 b3 "com/example/object_access_rules/objectaccessrules/Result" "below" "Lcom/example/object_access_rules/objectaccessrules/Result;" .null) :
    MetFree l mt10 (head1 (Jvm.Cond.code mt10 prog_37_method_12_code 2 (some (.object "com/example/object_access_rules/objectaccessrules/Result")) :: ws) ({ frames := 0, cells := 0, slots := 0, locals := 0 } : Room)) (fun aq U => aq = #[(.ref a)] ∧ Z.Warmed39 U.vm ∧ U.heap = h0) (fun _ _ _ _ _ => True) (fun _ U o U' => ∃ v L, o = .returned v ∧ Q_own_og3 Z a b1 b2 b3 h0 n0 v U'.heap L ∧ FrameEnd U o U' L ({ frames := 0, cells := 0, slots := 0, locals := 0 } : Room).cells ({ frames := 0, cells := 0, slots := 0, locals := 0 } : Room).slots) := by
  refine MetFree.of_bodySF (plainFor_of_name pn_com_example_object_access_rules_objectaccessrules_Result) hisR ?_
  intro p e s m args below meth c s₁ Bd hml0 hP hK
  obtain ⟨rfl, hZ, hh⟩ := hP
  have hx := Bd.exec
  have hby := Bd.bytes
  have hml : c.maxLocals = 2 := hml0
  have hown : s.vm.findClass "com/example/object_access_rules/objectaccessrules/Result" = some m.cls := findClass_of_methodNamed Bd.named
  have hnm := (name_of_methodNamed Bd.named Bd.method).1
  have X0 : Stand p l e ({ frames := 0, cells := 0, slots := 0, locals := 0 } : Room) s m #[(.ref a)] below meth c s₁ [] 0 0 := Stand.of_body Bd
  have e0 : s₁.heap = h0 := by rw [← hh, Bd.state]; rfl
  have N0 := Fr.nil n0
  have zO := O0.1
  have zO2 := O0.2.1
  have fl_F_a_below : h0.size > a := f0_F_a_below.lt
  have fl_F_b1_below : h0.size > b1 := f0_F_b1_below.lt
  have fl_F_b2_below : h0.size > b2 := f0_F_b2_below.lt
  have fl_F_b3_below : h0.size > b3 := f0_F_b3_below.lt
  refine own_open (own_via (S' := s₁.setTop (mkF m 0 #[.val (.ref a), .unset] [])) (fun t k => castTop (ef_own_og3 m a) k) ?_)
  refine own_via (S' := s₁.setTop (mkF m 1 #[.val (.ref a), .unset] [(.ref a)])) (fun t k => XS.aloadN X0.here hx rfl (hb hby d11_0) rfl rfl k) ?_
  refine own_via (S' := s₁.setTop (mkF m 2 #[.val (.ref a), .val (.ref a)] [])) (fun t k => XS.astoreN X0.here hx rfl (hb hby d11_1) rfl rfl (l' := #[.val (.ref a), .val (.ref a)]) rfl k) ?_
  refine own_via (S' := s₁.setTop (mkF m 3 #[.val (.ref a), .val (.ref a)] [(.ref a)])) (fun t k => XS.aloadN X0.here hx rfl (hb hby d11_2) rfl rfl k) ?_
  obtain ⟨T1, X1, e1, st1⟩ := getF X0 hx hZ hown (host := "") (Or.inl (wd57 hw)) Via.refl e0 f0_F_a_below (g := (mkF m 3 #[.val (.ref a), .val (.ref a)] [(.ref a)])) rfl rfl (hb hby d11_3)
  refine own_via (S' := T1.setTop (mkF m 6 #[.val (.ref a), .val (.ref a)] [(.ref b1)])) st1 ?_
  refine own_via (S' := T1.setTop (mkF m 9 #[.val (.ref a), .val (.ref a)] [])) (fun t k => XS.ifnullNo X1.here hx rfl (hb hby d11_6) rfl k) ?_
  refine own_via (S' := T1.setTop (mkF m 10 #[.val (.ref a), .val (.ref a)] [(.ref a)])) (fun t k => XS.aloadN X1.here hx rfl (hb hby d11_9) rfl rfl k) ?_
  obtain ⟨T2, X2, e2, st2⟩ := getF X1 hx hZ hown (host := "") (Or.inl (wd57 hw)) Via.refl e1 f0_F_a_below (g := (mkF m 10 #[.val (.ref a), .val (.ref a)] [(.ref a)])) rfl rfl (hb hby d11_10)
  refine own_via (S' := T2.setTop (mkF m 13 #[.val (.ref a), .val (.ref a)] [(.ref b1)])) st2 ?_
  refine own_via (S' := T2.setTop (mkF m 14 #[.val (.ref a), .val (.ref b1)] [])) (fun t k => XS.astoreN X2.here hx rfl (hb hby d11_13) rfl rfl (l' := #[.val (.ref a), .val (.ref b1)]) rfl k) ?_
  refine own_via (S' := T2.setTop (mkF m 2 #[.val (.ref a), .val (.ref b1)] [])) (fun t k => XS.goto X2.here hx rfl (pc0 := 14) (pc' := 2) rfl (hb hby d11_14) (by decide) (by decide) k) ?_
  refine own_via (S' := T2.setTop (mkF m 3 #[.val (.ref a), .val (.ref b1)] [(.ref b1)])) (fun t k => XS.aloadN X2.here hx rfl (hb hby d11_2) rfl rfl k) ?_
  obtain ⟨T3, X3, e3, st3⟩ := getF X2 hx hZ hown (host := "") (Or.inl (wd57 hw)) Via.refl e2 f0_F_b1_below (g := (mkF m 3 #[.val (.ref a), .val (.ref b1)] [(.ref b1)])) rfl rfl (hb hby d11_3)
  refine own_via (S' := T3.setTop (mkF m 6 #[.val (.ref a), .val (.ref b1)] [(.ref b2)])) st3 ?_
  refine own_via (S' := T3.setTop (mkF m 9 #[.val (.ref a), .val (.ref b1)] [])) (fun t k => XS.ifnullNo X3.here hx rfl (hb hby d11_6) rfl k) ?_
  refine own_via (S' := T3.setTop (mkF m 10 #[.val (.ref a), .val (.ref b1)] [(.ref b1)])) (fun t k => XS.aloadN X3.here hx rfl (hb hby d11_9) rfl rfl k) ?_
  obtain ⟨T4, X4, e4, st4⟩ := getF X3 hx hZ hown (host := "") (Or.inl (wd57 hw)) Via.refl e3 f0_F_b1_below (g := (mkF m 10 #[.val (.ref a), .val (.ref b1)] [(.ref b1)])) rfl rfl (hb hby d11_10)
  refine own_via (S' := T4.setTop (mkF m 13 #[.val (.ref a), .val (.ref b1)] [(.ref b2)])) st4 ?_
  refine own_via (S' := T4.setTop (mkF m 14 #[.val (.ref a), .val (.ref b2)] [])) (fun t k => XS.astoreN X4.here hx rfl (hb hby d11_13) rfl rfl (l' := #[.val (.ref a), .val (.ref b2)]) rfl k) ?_
  refine own_via (S' := T4.setTop (mkF m 2 #[.val (.ref a), .val (.ref b2)] [])) (fun t k => XS.goto X4.here hx rfl (pc0 := 14) (pc' := 2) rfl (hb hby d11_14) (by decide) (by decide) k) ?_
  refine own_via (S' := T4.setTop (mkF m 3 #[.val (.ref a), .val (.ref b2)] [(.ref b2)])) (fun t k => XS.aloadN X4.here hx rfl (hb hby d11_2) rfl rfl k) ?_
  obtain ⟨T5, X5, e5, st5⟩ := getF X4 hx hZ hown (host := "") (Or.inl (wd57 hw)) Via.refl e4 f0_F_b2_below (g := (mkF m 3 #[.val (.ref a), .val (.ref b2)] [(.ref b2)])) rfl rfl (hb hby d11_3)
  refine own_via (S' := T5.setTop (mkF m 6 #[.val (.ref a), .val (.ref b2)] [(.ref b3)])) st5 ?_
  refine own_via (S' := T5.setTop (mkF m 9 #[.val (.ref a), .val (.ref b2)] [])) (fun t k => XS.ifnullNo X5.here hx rfl (hb hby d11_6) rfl k) ?_
  refine own_via (S' := T5.setTop (mkF m 10 #[.val (.ref a), .val (.ref b2)] [(.ref b2)])) (fun t k => XS.aloadN X5.here hx rfl (hb hby d11_9) rfl rfl k) ?_
  obtain ⟨T6, X6, e6, st6⟩ := getF X5 hx hZ hown (host := "") (Or.inl (wd57 hw)) Via.refl e5 f0_F_b2_below (g := (mkF m 10 #[.val (.ref a), .val (.ref b2)] [(.ref b2)])) rfl rfl (hb hby d11_10)
  refine own_via (S' := T6.setTop (mkF m 13 #[.val (.ref a), .val (.ref b2)] [(.ref b3)])) st6 ?_
  refine own_via (S' := T6.setTop (mkF m 14 #[.val (.ref a), .val (.ref b3)] [])) (fun t k => XS.astoreN X6.here hx rfl (hb hby d11_13) rfl rfl (l' := #[.val (.ref a), .val (.ref b3)]) rfl k) ?_
  refine own_via (S' := T6.setTop (mkF m 2 #[.val (.ref a), .val (.ref b3)] [])) (fun t k => XS.goto X6.here hx rfl (pc0 := 14) (pc' := 2) rfl (hb hby d11_14) (by decide) (by decide) k) ?_
  refine own_via (S' := T6.setTop (mkF m 3 #[.val (.ref a), .val (.ref b3)] [(.ref b3)])) (fun t k => XS.aloadN X6.here hx rfl (hb hby d11_2) rfl rfl k) ?_
  obtain ⟨T7, X7, e7, st7⟩ := getF X6 hx hZ hown (host := "") (Or.inl (wd57 hw)) Via.refl e6 f0_F_b3_below (g := (mkF m 3 #[.val (.ref a), .val (.ref b3)] [(.ref b3)])) rfl rfl (hb hby d11_3)
  refine own_via (S' := T7.setTop (mkF m 6 #[.val (.ref a), .val (.ref b3)] [.null])) st7 ?_
  refine own_via (S' := T7.setTop (mkF m 17 #[.val (.ref a), .val (.ref b3)] [])) (fun t k => XS.ifnullYes X7.here hx rfl (pc0 := 6) (pc' := 17) rfl (hb hby d11_6) rfl (by decide) (by decide) k) ?_
  refine own_via (S' := T7.setTop (mkF m 18 #[.val (.ref a), .val (.ref b3)] [(.ref b3)])) (fun t k => XS.aloadN X7.here hx rfl (hb hby d11_17) rfl rfl k) ?_
  refine own_ret (Q := Q_own_og3 Z a b1 b2 b3 h0 n0) (C := ({ frames := 0, cells := 0, slots := 0, locals := 0 } : Room).cells) (N := ({ frames := 0, cells := 0, slots := 0, locals := 0 } : Room).slots) X7 (v := some (.ref b3)) (fun h => by rw [Bd.returns] at h; cases h) Bd.notSynchronized ?_ (by decide) (by decide) (fun fs hr => retOut X7 hx Bd.returns rfl (Or.inr (Or.inr (Or.inr (Or.inr ⟨rfl, rfl, rfl⟩)))) (hb hby d11_18) hr)
  show Q_own_og3 Z a b1 b2 b3 h0 n0 _ T7.heap _
  rw [e7]
  exact ⟨rfl, rfl, rfl⟩
def Q_own_law (Z : State) (p0 : Int32) (p1 : Int32) (p2 : Int32) (p3 : Int32) (p4 : Int32) (p5 : Int32) (zc : Int32) (wP : Addr) (wD : Addr) (wN : Addr) (wI : Addr) (wO : Addr) (wM : Addr) (wG : Addr) (wY : Addr) (h0 : Heap) (n0 : Nat) (v : Option Value) (vm : Vm) (h : Heap) (L : List Loc) : Prop := v = some (.int (1 : Int32)) ∧ Fr n0 L
set_option maxRecDepth 65536 in
set_option maxHeartbeats 40000000 in
theorem own_tail (l : Launch) (Z : State) (a0 : Array Value) (hw : ∀ d ∈ tables_1, d.before a0 Z = true) (p0 : Int32) (p1 : Int32) (p2 : Int32) (p3 : Int32) (p4 : Int32) (p5 : Int32) (kk : Int32) (d : Addr) (sc : Addr) (ms : Addr) (tm : Addr) (km : ClassId) (zl : Int32) (vsm : List Value) (s10 : Slot) (s11 : Slot) (zc : Int32) (wP : Addr) (wD : Addr) (wN : Addr) (wI : Addr) (wO : Addr) (wM : Addr) (wG : Addr) (wY : Addr) (h0 : Heap) (n0 : Nat) (hp : Heap) {p : Program} {e : Env} {s : State} {m : MethodId} {below : List Frame} {meth : Method} {c : Code} {T0 : State} {locs : List Loc} {vm0 : Vm} {k0 : Nat}
    (X0 : Stand p l e room_1 (s.setVm vm0) m #[(.int p0), (.int p1), (.int p2), (.int p3), (.int p4), (.int p5)] below meth c T0 locs 4 24) (hx : p.tables.exec = Jvm.exec) (hZ : Z.Warmed39 (s.setVm vm0).vm) (hby : c.code = code) (hml : c.maxLocals = 16) (hown : (s.setVm vm0).vm.findClass "com/example/object_access_rules/objectaccessrules/ResultOriginPinLaw" = some m.cls) (hret : meth.sig.returnType = some .boolean) (hsync : meth.locks = false) (hh : s.heap = h0) (hS0 : s.Since vm0 k0) (hk0 : k0 ≤ hp.size) (R0 : CHr Z own_EL s.vm h0 vm0 hp) (O0 : Old Z n0 hp) (N0 : Fr n0 locs) (e0 : T0.heap = hp) (zf_S_java_lang_String_COMPACT_STRINGS : Sta Z Z.heap "java/lang/String" "COMPACT_STRINGS" "Z" (.int zc)) (zf_S_com_example_object_access_rules_objectaccessrules_Decision_PERMIT : Sta Z Z.heap "com/example/object_access_rules/objectaccessrules/Decision" "PERMIT" "Lcom/example/object_access_rules/objectaccessrules/Decision;" (.ref wP)) (zf_S_com_example_object_access_rules_objectaccessrules_Decision_DENY : Sta Z Z.heap "com/example/object_access_rules/objectaccessrules/Decision" "DENY" "Lcom/example/object_access_rules/objectaccessrules/Decision;" (.ref wD)) (zf_S_com_example_object_access_rules_objectaccessrules_Decision_NOT_APPLICABLE : Sta Z Z.heap "com/example/object_access_rules/objectaccessrules/Decision" "NOT_APPLICABLE" "Lcom/example/object_access_rules/objectaccessrules/Decision;" (.ref wN)) (zf_S_com_example_object_access_rules_objectaccessrules_Decision_INDETERMINATE : Sta Z Z.heap "com/example/object_access_rules/objectaccessrules/Decision" "INDETERMINATE" "Lcom/example/object_access_rules/objectaccessrules/Decision;" (.ref wI)) (zf_S_com_example_object_access_rules_objectaccessrules_StatusCode_OK : Sta Z Z.heap "com/example/object_access_rules/objectaccessrules/StatusCode" "OK" "Lcom/example/object_access_rules/objectaccessrules/StatusCode;" (.ref wO)) (zf_S_com_example_object_access_rules_objectaccessrules_StatusCode_MISSING_ATTRIBUTE : Sta Z Z.heap "com/example/object_access_rules/objectaccessrules/StatusCode" "MISSING_ATTRIBUTE" "Lcom/example/object_access_rules/objectaccessrules/StatusCode;" (.ref wM)) (zf_S_com_example_object_access_rules_objectaccessrules_StatusCode_PROCESSING_ERROR : Sta Z Z.heap "com/example/object_access_rules/objectaccessrules/StatusCode" "PROCESSING_ERROR" "Lcom/example/object_access_rules/objectaccessrules/StatusCode;" (.ref wG)) (zf_S_com_example_object_access_rules_objectaccessrules_StatusCode_SYNTAX_ERROR : Sta Z Z.heap "com/example/object_access_rules/objectaccessrules/StatusCode" "SYNTAX_ERROR" "Lcom/example/object_access_rules/objectaccessrules/StatusCode;" (.ref wY)) (zf_E_wD : Exa Z Z.heap wD "com/example/object_access_rules/objectaccessrules/Decision") (zf_E_wO : Exa Z Z.heap wO "com/example/object_access_rules/objectaccessrules/StatusCode") (f0_E_d : Exa Z hp d "com/example/object_access_rules/objectaccessrules/Decision") (f0_E_sc : Exa Z hp sc "com/example/object_access_rules/objectaccessrules/StatusCode") (f0_E_ms : Exa Z hp ms "java/lang/String") (f0_F_ms_value : Fld Z hp ms "java/lang/String" "value" "[B" (.ref tm)) (f0_A_tm : Arv Z hp tm km .byte zl vsm (.int (0 : Int32))) (h_s10 : One s10) (h_s11 : One s11) (hcons : (d = wI ∧ ¬ (sc = wO)) ∨ (¬ (d = wI) ∧ sc = wO ∧ zl = (0 : Int32))) (hzc : ¬ (zc = (0 : Int32))) (hD : own_d4 wP wD wN wI) (hS : own_d4 wO wM wG wY) :
    own_Done p e below (fun o U' => ∃ v L, o = .returned v ∧ Q_own_law Z p0 p1 p2 p3 p4 p5 zc wP wD wN wI wO wM wG wY h0 n0 v U'.vm U'.heap L ∧ CHr Z own_EL s.vm s.heap U'.vm U'.heap ∧ ReturnedEndW s o U' L room_1.cells room_1.slots) (T0.setTop (mkF m 143 #[.val (.int p0), .val (.int p1), .val (.int p2), .val (.int p3), .val (.int p4), .val (.int p5), .val (.int kk), .val (.ref d), .val (.ref sc), .val (.ref ms), s10, s11, .unset, .unset, .unset, .unset] [])) := by
  have zO := O0.1
  have zO2 := O0.2.1
  have hEL := own_EW hw
  have zl_E_wD : Z.heap.size > wD := zf_E_wD.lt
  have zl_E_wO : Z.heap.size > wO := zf_E_wO.lt
  have fl_E_d : hp.size > d := f0_E_d.lt
  have fl_E_sc : hp.size > sc := f0_E_sc.lt
  have fl_E_ms : hp.size > ms := f0_E_ms.lt
  have fl_F_ms_value : hp.size > ms := f0_F_ms_value.lt
  have fl_A_tm : hp.size > tm := f0_A_tm.lt
  obtain ⟨T1, h1, X1, e1, E1, A1, D1, -, st1⟩ := newO X0 hx hZ hown (wd16 hw) (wd17 hw) (wd18 hw) e0 (g := (mkF m 143 #[.val (.int p0), .val (.int p1), .val (.int p2), .val (.int p3), .val (.int p4), .val (.int p5), .val (.int kk), .val (.ref d), .val (.ref sc), .val (.ref ms), s10, s11, .unset, .unset, .unset, .unset] [])) rfl (hb hby at_143) (by decide) (by decide)
  obtain ⟨b1, g1⟩ : ∃ z, z = hp.size := ⟨_, rfl⟩
  rw [← g1] at A1 D1 st1
  have lt_b1 : h1.size > b1 := A1.lt
  have sz2 : hp.size ≤ h1.size := E1.1
  have O3 : Old Z n0 h1 := O0.ext E1
  have R4 : CHr Z own_EL s.vm h0 vm0 h1 := R0.trans (CHr.ext E1 R0.1)
  have F1_decision : Fld Z h1 b1 "com/example/object_access_rules/objectaccessrules/Result" "decision" "Lcom/example/object_access_rules/objectaccessrules/Decision;" .null := D1 (Or.inr (wd36 hw)) (ty := (.object "com/example/object_access_rules/objectaccessrules/Decision")) (by decide)
  have F1_status : Fld Z h1 b1 "com/example/object_access_rules/objectaccessrules/Result" "status" "Lcom/example/object_access_rules/objectaccessrules/StatusCode;" .null := D1 (Or.inr (wd41 hw)) (ty := (.object "com/example/object_access_rules/objectaccessrules/StatusCode")) (by decide)
  have F1_message : Fld Z h1 b1 "com/example/object_access_rules/objectaccessrules/Result" "message" "Ljava/lang/String;" .null := D1 (Or.inr (wd46 hw)) (ty := (.object "java/lang/String")) (by decide)
  have F1_step : Fld Z h1 b1 "com/example/object_access_rules/objectaccessrules/Result" "step" "Ljava/lang/String;" .null := D1 (Or.inr (wd56 hw)) (ty := (.object "java/lang/String")) (by decide)
  have F1_below : Fld Z h1 b1 "com/example/object_access_rules/objectaccessrules/Result" "below" "Lcom/example/object_access_rules/objectaccessrules/Result;" .null := D1 (Or.inr (wd58 hw)) (ty := (.object "com/example/object_access_rules/objectaccessrules/Result")) (by decide)
  refine own_via (S' := T1.setTop (mkF m 146 #[.val (.int p0), .val (.int p1), .val (.int p2), .val (.int p3), .val (.int p4), .val (.int p5), .val (.int kk), .val (.ref d), .val (.ref sc), .val (.ref ms), s10, s11, .unset, .unset, .unset, .unset] [(.ref b1)])) st1 ?_
  refine own_via (S' := T1.setTop (mkF m 147 #[.val (.int p0), .val (.int p1), .val (.int p2), .val (.int p3), .val (.int p4), .val (.int p5), .val (.int kk), .val (.ref d), .val (.ref sc), .val (.ref ms), s10, s11, .unset, .unset, .unset, .unset] [(.ref b1), (.ref b1)])) (fun t k => XS.dup X1.here hx rfl (hb hby at_146) rfl rfl k) ?_
  refine own_via (S' := T1.setTop (mkF m 149 #[.val (.int p0), .val (.int p1), .val (.int p2), .val (.int p3), .val (.int p4), .val (.int p5), .val (.int kk), .val (.ref d), .val (.ref sc), .val (.ref ms), s10, s11, .unset, .unset, .unset, .unset] [(.ref d), (.ref b1), (.ref b1)])) (fun t k => XS.aload X1.here hx rfl (hb hby at_147) rfl rfl k) ?_
  refine own_via (S' := T1.setTop (mkF m 151 #[.val (.int p0), .val (.int p1), .val (.int p2), .val (.int p3), .val (.int p4), .val (.int p5), .val (.int kk), .val (.ref d), .val (.ref sc), .val (.ref ms), s10, s11, .unset, .unset, .unset, .unset] [(.ref sc), (.ref d), (.ref b1), (.ref b1)])) (fun t k => XS.aload X1.here hx rfl (hb hby at_149) rfl rfl k) ?_
  refine own_via (S' := T1.setTop (mkF m 153 #[.val (.int p0), .val (.int p1), .val (.int p2), .val (.int p3), .val (.int p4), .val (.int p5), .val (.int kk), .val (.ref d), .val (.ref sc), .val (.ref ms), s10, s11, .unset, .unset, .unset, .unset] [(.ref ms), (.ref sc), (.ref d), (.ref b1), (.ref b1)])) (fun t k => XS.aload X1.here hx rfl (hb hby at_151) rfl rfl k) ?_
  have cx6 : Exa Z h1 d "com/example/object_access_rules/objectaccessrules/Decision" := (f0_E_d.ext E1)
  have cx7 : Exa Z h1 sc "com/example/object_access_rules/objectaccessrules/StatusCode" := (f0_E_sc.ext E1)
  have cx8 : Exa Z h1 ms "java/lang/String" := (f0_E_ms.ext E1)
  have cx9 : Fld Z h1 ms "java/lang/String" "value" "[B" (.ref tm) := (f0_F_ms_value.ext E1)
  have cx10 : Arv Z h1 tm km .byte zl vsm (.int (0 : Int32)) := (f0_A_tm.ext E1)
  have hk5 : k0 ≤ T1.heap.size := by rw [e1]; omega
  obtain ⟨_, _, ⟨T5, Lp5, kp5, np5⟩, -, X5, hS5, hgr5, ⟨Lc5, ⟨hQ5, R5q⟩, l5, y5, z5⟩, st5⟩ := X1.specialBackS hx (y := mt3) rfl hown (mvT hZ (wd19 hw)) (mvT hZ (wd20 hw)) (mvT hZ (wd21 hw)) (by decide) (own_backW (SL := []) (W := 1) (own_r3 l Z a0 hw [] b1 d sc ms tm km zl vsm wI wO h1 n0 O3 zf_S_com_example_object_access_rules_objectaccessrules_Decision_INDETERMINATE zf_S_com_example_object_access_rules_objectaccessrules_StatusCode_OK A1 F1_decision F1_status F1_message F1_step F1_below cx6 cx7 cx8 cx9 cx10 (by omega) hcons) hZ (wd21 hw) (wd18 hw) (by decide) (by decide) hEL R4.1 all0) (g := (mkF m 153 #[.val (.int p0), .val (.int p1), .val (.int p2), .val (.int p3), .val (.int p4), .val (.int p5), .val (.int kk), .val (.ref d), .val (.ref sc), .val (.ref ms), s10, s11, .unset, .unset, .unset, .unset] [(.ref ms), (.ref sc), (.ref d), (.ref b1), (.ref b1)])) rfl (by rw [hml]; rfl) (Steps.refl _) (a := b1) (argsL := [(.ref d), (.ref sc), (.ref ms)]) (rest := [(.ref b1)]) (lenOf pd__Lcom_example_object_access_rules_objectaccessrules_Decision_Lcom_example_object_access_rules_objectaccessrules_StatusCode_Ljava_lang_String__V_4135 rfl) rfl (by show 2 * 0 + _ ≤ _; exact Nat.le_of_eq rfl) (hb hby at_153) (fun _ _ => ⟨rfl, e1, (by decide : 5 + 6 ≤ _), (by decide : 29 + 96 ≤ _)⟩)
  dsimp only [Pt.U, Pt.locs, Pt.cells, Pt.slots] at X5 l5 y5 z5 st5 hQ5 hS5 hgr5 R5q
  subst Lp5 kp5 np5
  obtain ⟨X5, hSn5, hZ, hown⟩ := rebS hS0 hk5 X5 hS5 hgr5 hZ hown
  obtain ⟨rfl, N5q, K5q, f5_0, f5_1, f5_2, f5_3, f5_4⟩ := hQ5
  have N5 := Fr.app N0 N5q
  have sz11 : h1.size ≤ T5.heap.size := K5q.1
  have R12 : CHr Z own_EL s.vm h0 T5.vm T5.heap := R4.trans R5q
  have O13 : Old Z n0 T5.heap := O3.keep K5q (allS (by omega : n0 ≤ b1) all0)
  refine own_tr (S' := T5.setTop (mkF m 156 #[.val (.int p0), .val (.int p1), .val (.int p2), .val (.int p3), .val (.int p4), .val (.int p5), .val (.int kk), .val (.ref d), .val (.ref sc), .val (.ref ms), s10, s11, .unset, .unset, .unset, .unset] [(.ref b1)])) st5 ?_
  refine own_via (S' := T5.setTop (mkF m 158 #[.val (.int p0), .val (.int p1), .val (.int p2), .val (.int p3), .val (.int p4), .val (.int p5), .val (.int kk), .val (.ref d), .val (.ref sc), .val (.ref ms), .val (.ref b1), s11, .unset, .unset, .unset, .unset] [])) (fun t k => XS.astore X5.here hx rfl (hb hby at_156) rfl rfl (l' := #[.val (.int p0), .val (.int p1), .val (.int p2), .val (.int p3), .val (.int p4), .val (.int p5), .val (.int kk), .val (.ref d), .val (.ref sc), .val (.ref ms), .val (.ref b1), s11, .unset, .unset, .unset, .unset]) (own_store_16_10_R h_s10) k) ?_
  refine own_via (S' := T5.setTop (mkF m 159 #[.val (.int p0), .val (.int p1), .val (.int p2), .val (.int p3), .val (.int p4), .val (.int p5), .val (.int kk), .val (.ref d), .val (.ref sc), .val (.ref ms), .val (.ref b1), s11, .unset, .unset, .unset, .unset] [(.int p2)])) (fun t k => XS.iloadN X5.here hx rfl (hb hby at_158) rfl k) ?_
  refine own_via (S' := T5.setTop (mkF m 160 #[.val (.int p0), .val (.int p1), .val (.int p2), .val (.int p3), .val (.int p4), .val (.int p5), .val (.int kk), .val (.ref d), .val (.ref sc), .val (.ref ms), .val (.ref b1), s11, .unset, .unset, .unset, .unset] [(.int (3 : Int32)), (.int p2)])) (fun t k => XS.iconst X5.here hx rfl (hb hby at_159) k) ?_
  refine own_via (S' := T5.setTop (mkF m 161 #[.val (.int p0), .val (.int p1), .val (.int p2), .val (.int p3), .val (.int p4), .val (.int p5), .val (.int kk), .val (.ref d), .val (.ref sc), .val (.ref ms), .val (.ref b1), s11, .unset, .unset, .unset, .unset] [(.int (p2 &&& (3 : Int32)))])) (fun t k => XS.iand X5.here hx rfl (hb hby at_160) rfl k) ?_
  refine own_via (S' := T5.setTop (mkF m 163 #[.val (.int p0), .val (.int p1), .val (.int p2), .val (.int p3), .val (.int p4), .val (.int p5), .val (.int kk), .val (.ref d), .val (.ref sc), .val (.ref ms), .val (.ref b1), .val (.int (p2 &&& (3 : Int32))), .unset, .unset, .unset, .unset] [])) (fun t k => XS.istore X5.here hx rfl (hb hby at_161) rfl (l' := #[.val (.int p0), .val (.int p1), .val (.int p2), .val (.int p3), .val (.int p4), .val (.int p5), .val (.int kk), .val (.ref d), .val (.ref sc), .val (.ref ms), .val (.ref b1), .val (.int (p2 &&& (3 : Int32))), .unset, .unset, .unset, .unset]) (own_store_16_11_I h_s11) k) ?_
  obtain ⟨dp, hn_dp⟩ : ∃ z : Int32, z = (p2 &&& (3 : Int32)) := ⟨_, rfl⟩
  rw [← hn_dp]
  refine own_via (S' := T5.setTop (mkF m 164 #[.val (.int p0), .val (.int p1), .val (.int p2), .val (.int p3), .val (.int p4), .val (.int p5), .val (.int kk), .val (.ref d), .val (.ref sc), .val (.ref ms), .val (.ref b1), .val (.int dp), .unset, .unset, .unset, .unset] [(.int p2)])) (fun t k => XS.iloadN X5.here hx rfl (hb hby at_163) rfl k) ?_
  refine own_via (S' := T5.setTop (mkF m 165 #[.val (.int p0), .val (.int p1), .val (.int p2), .val (.int p3), .val (.int p4), .val (.int p5), .val (.int kk), .val (.ref d), .val (.ref sc), .val (.ref ms), .val (.ref b1), .val (.int dp), .unset, .unset, .unset, .unset] [(.int (2 : Int32)), (.int p2)])) (fun t k => XS.iconst X5.here hx rfl (hb hby at_164) k) ?_
  refine own_via (S' := T5.setTop (mkF m 166 #[.val (.int p0), .val (.int p1), .val (.int p2), .val (.int p3), .val (.int p4), .val (.int p5), .val (.int kk), .val (.ref d), .val (.ref sc), .val (.ref ms), .val (.ref b1), .val (.int dp), .unset, .unset, .unset, .unset] [(.int (p2 >>> ((2 : Int32) &&& 31)))])) (fun t k => XS.ishr X5.here hx rfl (hb hby at_165) rfl k) ?_
  refine own_via (S' := T5.setTop (mkF m 167 #[.val (.int p0), .val (.int p1), .val (.int p2), .val (.int p3), .val (.int p4), .val (.int p5), .val (.int kk), .val (.ref d), .val (.ref sc), .val (.ref ms), .val (.ref b1), .val (.int dp), .unset, .unset, .unset, .unset] [(.int (1 : Int32)), (.int (p2 >>> ((2 : Int32) &&& 31)))])) (fun t k => XS.iconst X5.here hx rfl (hb hby at_166) k) ?_
  refine own_via (S' := T5.setTop (mkF m 168 #[.val (.int p0), .val (.int p1), .val (.int p2), .val (.int p3), .val (.int p4), .val (.int p5), .val (.int kk), .val (.ref d), .val (.ref sc), .val (.ref ms), .val (.ref b1), .val (.int dp), .unset, .unset, .unset, .unset] [(.int ((p2 >>> ((2 : Int32) &&& 31)) &&& (1 : Int32)))])) (fun t k => XS.iand X5.here hx rfl (hb hby at_167) rfl k) ?_
  obtain ⟨z14_0, hz14_0⟩ : ∃ z : Int32, z = (if ((p2 >>> ((2 : Int32) &&& 31)) &&& (1 : Int32)) = (0 : Int32) then (0 : Int32) else (1 : Int32)) := ⟨_, rfl⟩
  suffices jn14 : ∀ (Tm14 : State), Stand p l e room_1 (s.setVm T5.vm) m #[(.int p0), (.int p1), (.int p2), (.int p3), (.int p4), (.int p5)] below meth c Tm14 (locs ++ Lc5) 11 125 → Tm14.heap = T5.heap → own_Done p e below (fun o U' => ∃ v L, o = .returned v ∧ Q_own_law Z p0 p1 p2 p3 p4 p5 zc wP wD wN wI wO wM wG wY h0 n0 v U'.vm U'.heap L ∧ CHr Z own_EL s.vm s.heap U'.vm U'.heap ∧ ReturnedEndW s o U' L room_1.cells room_1.slots) (Tm14.setTop (mkF m 176 #[.val (.int p0), .val (.int p1), .val (.int p2), .val (.int p3), .val (.int p4), .val (.int p5), .val (.int kk), .val (.ref d), .val (.ref sc), .val (.ref ms), .val (.ref b1), .val (.int dp), .unset, .unset, .unset, .unset] [(.int z14_0)])) by
    by_cases hc168_15 : ((p2 >>> ((2 : Int32) &&& 31)) &&& (1 : Int32)) = (0 : Int32)
    · -- yes
      refine own_via (S' := T5.setTop (mkF m 175 #[.val (.int p0), .val (.int p1), .val (.int p2), .val (.int p3), .val (.int p4), .val (.int p5), .val (.int kk), .val (.ref d), .val (.ref sc), .val (.ref ms), .val (.ref b1), .val (.int dp), .unset, .unset, .unset, .unset] [])) (fun t k => XS.ifYes X5.here hx rfl (pc0 := 168) (pc' := 175) rfl (hb hby at_168) rfl ((if0 _ _).trans (teq hc168_15).1) (by decide) (by decide) k) ?_
      refine own_via (S' := T5.setTop (mkF m 176 #[.val (.int p0), .val (.int p1), .val (.int p2), .val (.int p3), .val (.int p4), .val (.int p5), .val (.int kk), .val (.ref d), .val (.ref sc), .val (.ref ms), .val (.ref b1), .val (.int dp), .unset, .unset, .unset, .unset] [(.int (0 : Int32))])) (fun t k => XS.iconst X5.here hx rfl (hb hby at_175) k) ?_
      have qz14_0 : z14_0 = (0 : Int32) := hz14_0.trans (if_pos hc168_15)
      rw [qz14_0] at jn14
      exact jn14 _ X5 rfl
    · -- no
      refine own_via (S' := T5.setTop (mkF m 171 #[.val (.int p0), .val (.int p1), .val (.int p2), .val (.int p3), .val (.int p4), .val (.int p5), .val (.int kk), .val (.ref d), .val (.ref sc), .val (.ref ms), .val (.ref b1), .val (.int dp), .unset, .unset, .unset, .unset] [])) (fun t k => XS.ifNo X5.here hx rfl (hb hby at_168) rfl ((if0 _ _).trans (feq hc168_15).1) k) ?_
      refine own_via (S' := T5.setTop (mkF m 172 #[.val (.int p0), .val (.int p1), .val (.int p2), .val (.int p3), .val (.int p4), .val (.int p5), .val (.int kk), .val (.ref d), .val (.ref sc), .val (.ref ms), .val (.ref b1), .val (.int dp), .unset, .unset, .unset, .unset] [(.int (1 : Int32))])) (fun t k => XS.iconst X5.here hx rfl (hb hby at_171) k) ?_
      refine own_via (S' := T5.setTop (mkF m 176 #[.val (.int p0), .val (.int p1), .val (.int p2), .val (.int p3), .val (.int p4), .val (.int p5), .val (.int kk), .val (.ref d), .val (.ref sc), .val (.ref ms), .val (.ref b1), .val (.int dp), .unset, .unset, .unset, .unset] [(.int (1 : Int32))])) (fun t k => XS.goto X5.here hx rfl (pc0 := 172) (pc' := 176) rfl (hb hby at_172) (by decide) (by decide) k) ?_
      have qz14_0 : z14_0 = (1 : Int32) := hz14_0.trans (if_neg hc168_15)
      rw [qz14_0] at jn14
      exact jn14 _ X5 rfl
  intro Tm14 Xm14 em14
  refine own_via (S' := Tm14.setTop (mkF m 178 #[.val (.int p0), .val (.int p1), .val (.int p2), .val (.int p3), .val (.int p4), .val (.int p5), .val (.int kk), .val (.ref d), .val (.ref sc), .val (.ref ms), .val (.ref b1), .val (.int dp), .val (.int z14_0), .unset, .unset, .unset] [])) (fun t k => XS.istore Xm14.here hx rfl (hb hby at_176) rfl (l' := #[.val (.int p0), .val (.int p1), .val (.int p2), .val (.int p3), .val (.int p4), .val (.int p5), .val (.int kk), .val (.ref d), .val (.ref sc), .val (.ref ms), .val (.ref b1), .val (.int dp), .val (.int z14_0), .unset, .unset, .unset]) rfl k) ?_
  refine own_via (S' := Tm14.setTop (mkF m 180 #[.val (.int p0), .val (.int p1), .val (.int p2), .val (.int p3), .val (.int p4), .val (.int p5), .val (.int kk), .val (.ref d), .val (.ref sc), .val (.ref ms), .val (.ref b1), .val (.int dp), .val (.int z14_0), .unset, .unset, .unset] [(.ref b1)])) (fun t k => XS.aload Xm14.here hx rfl (hb hby at_178) rfl rfl k) ?_
  refine own_via (S' := Tm14.setTop (mkF m 182 #[.val (.int p0), .val (.int p1), .val (.int p2), .val (.int p3), .val (.int p4), .val (.int p5), .val (.int kk), .val (.ref d), .val (.ref sc), .val (.ref ms), .val (.ref b1), .val (.int dp), .val (.int z14_0), .val (.ref b1), .unset, .unset] [])) (fun t k => XS.astore Xm14.here hx rfl (hb hby at_180) rfl rfl (l' := #[.val (.int p0), .val (.int p1), .val (.int p2), .val (.int p3), .val (.int p4), .val (.int p5), .val (.int kk), .val (.ref d), .val (.ref sc), .val (.ref ms), .val (.ref b1), .val (.int dp), .val (.int z14_0), .val (.ref b1), .unset, .unset]) rfl k) ?_
  refine own_via (S' := Tm14.setTop (mkF m 184 #[.val (.int p0), .val (.int p1), .val (.int p2), .val (.int p3), .val (.int p4), .val (.int p5), .val (.int kk), .val (.ref d), .val (.ref sc), .val (.ref ms), .val (.ref b1), .val (.int dp), .val (.int z14_0), .val (.ref b1), .unset, .unset] [(.int dp)])) (fun t k => XS.iload Xm14.here hx rfl (hb hby at_182) rfl k) ?_
  refine own_via (S' := Tm14.setTop (mkF m 185 #[.val (.int p0), .val (.int p1), .val (.int p2), .val (.int p3), .val (.int p4), .val (.int p5), .val (.int kk), .val (.ref d), .val (.ref sc), .val (.ref ms), .val (.ref b1), .val (.int dp), .val (.int z14_0), .val (.ref b1), .unset, .unset] [(.int (1 : Int32)), (.int dp)])) (fun t k => XS.iconst Xm14.here hx rfl (hb hby at_184) k) ?_
  by_cases hc185_16 : dp < (1 : Int32)
  · -- yes
    refine own_via (S' := Tm14.setTop (mkF m 204 #[.val (.int p0), .val (.int p1), .val (.int p2), .val (.int p3), .val (.int p4), .val (.int p5), .val (.int kk), .val (.ref d), .val (.ref sc), .val (.ref ms), .val (.ref b1), .val (.int dp), .val (.int z14_0), .val (.ref b1), .unset, .unset] [])) (fun t k => XS.icmpYes Xm14.here hx rfl (pc0 := 185) (pc' := 204) rfl (hb hby at_185) rfl (tlt hc185_16).1 (by decide) (by decide) k) ?_
    refine own_via (S' := Tm14.setTop (mkF m 206 #[.val (.int p0), .val (.int p1), .val (.int p2), .val (.int p3), .val (.int p4), .val (.int p5), .val (.int kk), .val (.ref d), .val (.ref sc), .val (.ref ms), .val (.ref b1), .val (.int dp), .val (.int z14_0), .val (.ref b1), .unset, .unset] [(.int dp)])) (fun t k => XS.iload Xm14.here hx rfl (hb hby at_204) rfl k) ?_
    refine own_via (S' := Tm14.setTop (mkF m 207 #[.val (.int p0), .val (.int p1), .val (.int p2), .val (.int p3), .val (.int p4), .val (.int p5), .val (.int kk), .val (.ref d), .val (.ref sc), .val (.ref ms), .val (.ref b1), .val (.int dp), .val (.int z14_0), .val (.ref b1), .unset, .unset] [(.int (2 : Int32)), (.int dp)])) (fun t k => XS.iconst Xm14.here hx rfl (hb hby at_206) k) ?_
    have hc207_17 : dp < (2 : Int32) := own_ltt hc185_16 (by decide)
    refine own_via (S' := Tm14.setTop (mkF m 227 #[.val (.int p0), .val (.int p1), .val (.int p2), .val (.int p3), .val (.int p4), .val (.int p5), .val (.int kk), .val (.ref d), .val (.ref sc), .val (.ref ms), .val (.ref b1), .val (.int dp), .val (.int z14_0), .val (.ref b1), .unset, .unset] [])) (fun t k => XS.icmpYes Xm14.here hx rfl (pc0 := 207) (pc' := 227) rfl (hb hby at_207) rfl (tlt hc207_17).1 (by decide) (by decide) k) ?_
    refine own_via (S' := Tm14.setTop (mkF m 229 #[.val (.int p0), .val (.int p1), .val (.int p2), .val (.int p3), .val (.int p4), .val (.int p5), .val (.int kk), .val (.ref d), .val (.ref sc), .val (.ref ms), .val (.ref b1), .val (.int dp), .val (.int z14_0), .val (.ref b1), .unset, .unset] [(.int dp)])) (fun t k => XS.iload Xm14.here hx rfl (hb hby at_227) rfl k) ?_
    refine own_via (S' := Tm14.setTop (mkF m 230 #[.val (.int p0), .val (.int p1), .val (.int p2), .val (.int p3), .val (.int p4), .val (.int p5), .val (.int kk), .val (.ref d), .val (.ref sc), .val (.ref ms), .val (.ref b1), .val (.int dp), .val (.int z14_0), .val (.ref b1), .unset, .unset] [(.int (3 : Int32)), (.int dp)])) (fun t k => XS.iconst Xm14.here hx rfl (hb hby at_229) k) ?_
    have hc230_18 : dp < (3 : Int32) := own_ltt hc185_16 (by decide)
    refine own_via (S' := Tm14.setTop (mkF m 250 #[.val (.int p0), .val (.int p1), .val (.int p2), .val (.int p3), .val (.int p4), .val (.int p5), .val (.int kk), .val (.ref d), .val (.ref sc), .val (.ref ms), .val (.ref b1), .val (.int dp), .val (.int z14_0), .val (.ref b1), .unset, .unset] [])) (fun t k => XS.icmpYes Xm14.here hx rfl (pc0 := 230) (pc' := 250) rfl (hb hby at_230) rfl (tlt hc230_18).1 (by decide) (by decide) k) ?_
    refine own_via (S' := Tm14.setTop (mkF m 252 #[.val (.int p0), .val (.int p1), .val (.int p2), .val (.int p3), .val (.int p4), .val (.int p5), .val (.int kk), .val (.ref d), .val (.ref sc), .val (.ref ms), .val (.ref b1), .val (.int dp), .val (.int z14_0), .val (.ref b1), .unset, .unset] [(.ref b1)])) (fun t k => XS.aload Xm14.here hx rfl (hb hby at_250) rfl rfl k) ?_
    refine own_via (S' := Tm14.setTop (mkF m 254 #[.val (.int p0), .val (.int p1), .val (.int p2), .val (.int p3), .val (.int p4), .val (.int p5), .val (.int kk), .val (.ref d), .val (.ref sc), .val (.ref ms), .val (.ref b1), .val (.int dp), .val (.int z14_0), .val (.ref b1), .val (.ref b1), .unset] [])) (fun t k => XS.astore Xm14.here hx rfl (hb hby at_252) rfl rfl (l' := #[.val (.int p0), .val (.int p1), .val (.int p2), .val (.int p3), .val (.int p4), .val (.int p5), .val (.int kk), .val (.ref d), .val (.ref sc), .val (.ref ms), .val (.ref b1), .val (.int dp), .val (.int z14_0), .val (.ref b1), .val (.ref b1), .unset]) rfl k) ?_
    refine own_via (S' := Tm14.setTop (mkF m 256 #[.val (.int p0), .val (.int p1), .val (.int p2), .val (.int p3), .val (.int p4), .val (.int p5), .val (.int kk), .val (.ref d), .val (.ref sc), .val (.ref ms), .val (.ref b1), .val (.int dp), .val (.int z14_0), .val (.ref b1), .val (.ref b1), .unset] [(.int z14_0)])) (fun t k => XS.iload Xm14.here hx rfl (hb hby at_254) rfl k) ?_
    by_cases hc256_19 : z14_0 = (0 : Int32)
    · -- yes
      refine own_via (S' := Tm14.setTop (mkF m 283 #[.val (.int p0), .val (.int p1), .val (.int p2), .val (.int p3), .val (.int p4), .val (.int p5), .val (.int kk), .val (.ref d), .val (.ref sc), .val (.ref ms), .val (.ref b1), .val (.int dp), .val (.int z14_0), .val (.ref b1), .val (.ref b1), .unset] [])) (fun t k => XS.ifYes Xm14.here hx rfl (pc0 := 256) (pc' := 283) rfl (hb hby at_256) rfl ((if0 _ _).trans (teq hc256_19).1) (by decide) (by decide) k) ?_
      refine own_via (S' := Tm14.setTop (mkF m 285 #[.val (.int p0), .val (.int p1), .val (.int p2), .val (.int p3), .val (.int p4), .val (.int p5), .val (.int kk), .val (.ref d), .val (.ref sc), .val (.ref ms), .val (.ref b1), .val (.int dp), .val (.int z14_0), .val (.ref b1), .val (.ref b1), .unset] [(.ref b1)])) (fun t k => XS.aload Xm14.here hx rfl (hb hby at_283) rfl rfl k) ?_
      have cx21 : Exa Z T5.heap b1 "com/example/object_access_rules/objectaccessrules/Result" := (A1.keep K5q)
      obtain ⟨cq20, kq20, q20a, q20b, q20c⟩ := isOf hZ em14 cx21
      obtain ⟨_, _, ⟨T20, Lp20, kp20, np20⟩, -, X20, ⟨Lc20, hQ20, l20, y20, z20⟩, st20⟩ := Xm14.virtualBack hx (y := mt10) (z := mt10) hown (mvT hZ (wd84 hw)) (mvT hZ (wd85 hw)) (notFace_of_selects (args := #[]) (mvT hZ (wd87 hw))) (mvT hZ (wd87 hw)) (mvT hZ (wd86 hw)) (by decide) (backOf (W := 0) (own_og0 l Z a0 hw [] b1 T5.heap n0 O13 f5_4) hZ (wd88 hw) (wd18 hw) (by decide) (by decide)) q20a q20c (g := (mkF m 285 #[.val (.int p0), .val (.int p1), .val (.int p2), .val (.int p3), .val (.int p4), .val (.int p5), .val (.int kk), .val (.ref d), .val (.ref sc), .val (.ref ms), .val (.ref b1), .val (.int dp), .val (.int z14_0), .val (.ref b1), .val (.ref b1), .unset] [(.ref b1)])) rfl (by rw [hml]; rfl) (Steps.refl _) (argsL := []) (rest := []) (lenOf pd___Lcom_example_object_access_rules_objectaccessrules_Result__5924 rfl) rfl (by show 2 * 0 + _ ≤ _; exact Nat.le_of_eq rfl) (hb hby at_285) (fun _ _ => ⟨rfl, em14, (by decide : 11 + 0 ≤ _), (by decide : 125 + 0 ≤ _)⟩)
      dsimp only [Pt.U, Pt.locs, Pt.cells, Pt.slots] at X20 l20 y20 z20 st20 hQ20
      subst Lp20 kp20 np20
      obtain ⟨rfl, rfl, e20⟩ := hQ20
      try rw [List.append_nil] at X20
      refine own_tr (S' := T20.setTop (mkF m 288 #[.val (.int p0), .val (.int p1), .val (.int p2), .val (.int p3), .val (.int p4), .val (.int p5), .val (.int kk), .val (.ref d), .val (.ref sc), .val (.ref ms), .val (.ref b1), .val (.int dp), .val (.int z14_0), .val (.ref b1), .val (.ref b1), .unset] [(.ref b1)])) st20 ?_
      refine own_via (S' := T20.setTop (mkF m 290 #[.val (.int p0), .val (.int p1), .val (.int p2), .val (.int p3), .val (.int p4), .val (.int p5), .val (.int kk), .val (.ref d), .val (.ref sc), .val (.ref ms), .val (.ref b1), .val (.int dp), .val (.int z14_0), .val (.ref b1), .val (.ref b1), .val (.ref b1)] [])) (fun t k => XS.astore X20.here hx rfl (hb hby at_288) rfl rfl (l' := #[.val (.int p0), .val (.int p1), .val (.int p2), .val (.int p3), .val (.int p4), .val (.int p5), .val (.int kk), .val (.ref d), .val (.ref sc), .val (.ref ms), .val (.ref b1), .val (.int dp), .val (.int z14_0), .val (.ref b1), .val (.ref b1), .val (.ref b1)]) rfl k) ?_
      refine own_via (S' := T20.setTop (mkF m 292 #[.val (.int p0), .val (.int p1), .val (.int p2), .val (.int p3), .val (.int p4), .val (.int p5), .val (.int kk), .val (.ref d), .val (.ref sc), .val (.ref ms), .val (.ref b1), .val (.int dp), .val (.int z14_0), .val (.ref b1), .val (.ref b1), .val (.ref b1)] [(.ref b1)])) (fun t k => XS.aload X20.here hx rfl (hb hby at_290) rfl rfl k) ?_
      refine own_via (S' := T20.setTop (mkF m 294 #[.val (.int p0), .val (.int p1), .val (.int p2), .val (.int p3), .val (.int p4), .val (.int p5), .val (.int kk), .val (.ref d), .val (.ref sc), .val (.ref ms), .val (.ref b1), .val (.int dp), .val (.int z14_0), .val (.ref b1), .val (.ref b1), .val (.ref b1)] [(.ref b1), (.ref b1)])) (fun t k => XS.aload X20.here hx rfl (hb hby at_292) rfl rfl k) ?_
      refine own_via (S' := T20.setTop (mkF m 297 #[.val (.int p0), .val (.int p1), .val (.int p2), .val (.int p3), .val (.int p4), .val (.int p5), .val (.int kk), .val (.ref d), .val (.ref sc), .val (.ref ms), .val (.ref b1), .val (.int dp), .val (.int z14_0), .val (.ref b1), .val (.ref b1), .val (.ref b1)] [])) (fun t k => Jvm.RoadKit.acmp (g := (mkF m 294 #[.val (.int p0), .val (.int p1), .val (.int p2), .val (.int p3), .val (.int p4), .val (.int p5), .val (.int kk), .val (.ref d), .val (.ref sc), .val (.ref ms), .val (.ref b1), .val (.int dp), .val (.int z14_0), .val (.ref b1), .val (.ref b1), .val (.ref b1)] [(.ref b1), (.ref b1)])) X20 hx rfl rfl rfl (pc0 := 294) (pc' := 297) (same := true) rfl (hb hby at_294) rfl (decide_eq_true rfl) (by decide) (by decide) k) ?_
      refine own_via (S' := T20.setTop (mkF m 299 #[.val (.int p0), .val (.int p1), .val (.int p2), .val (.int p3), .val (.int p4), .val (.int p5), .val (.int kk), .val (.ref d), .val (.ref sc), .val (.ref ms), .val (.ref b1), .val (.int dp), .val (.int z14_0), .val (.ref b1), .val (.ref b1), .val (.ref b1)] [(.ref b1)])) (fun t k => XS.aload X20.here hx rfl (hb hby at_297) rfl rfl k) ?_
      obtain ⟨cq22, kq22, q22a, q22b, q22c⟩ := isOf hZ e20 cx21
      obtain ⟨_, _, ⟨T22, Lp22, kp22, np22⟩, -, X22, ⟨Lc22, hQ22, l22, y22, z22⟩, st22⟩ := X20.virtualBack hx (y := mt10) (z := mt10) hown (mvT hZ (wd84 hw)) (mvT hZ (wd85 hw)) (notFace_of_selects (args := #[]) (mvT hZ (wd87 hw))) (mvT hZ (wd87 hw)) (mvT hZ (wd86 hw)) (by decide) (backOf (W := 0) (own_og0 l Z a0 hw [] b1 T5.heap n0 O13 f5_4) hZ (wd88 hw) (wd18 hw) (by decide) (by decide)) q22a q22c (g := (mkF m 299 #[.val (.int p0), .val (.int p1), .val (.int p2), .val (.int p3), .val (.int p4), .val (.int p5), .val (.int kk), .val (.ref d), .val (.ref sc), .val (.ref ms), .val (.ref b1), .val (.int dp), .val (.int z14_0), .val (.ref b1), .val (.ref b1), .val (.ref b1)] [(.ref b1)])) rfl (by rw [hml]; rfl) (Steps.refl _) (argsL := []) (rest := []) (lenOf pd___Lcom_example_object_access_rules_objectaccessrules_Result__5924 rfl) rfl (by show 2 * 0 + _ ≤ _; exact Nat.le_of_eq rfl) (hb hby at_299) (fun _ _ => ⟨rfl, e20, (by decide : 11 + 0 ≤ _), (by decide : 125 + 0 ≤ _)⟩)
      dsimp only [Pt.U, Pt.locs, Pt.cells, Pt.slots] at X22 l22 y22 z22 st22 hQ22
      subst Lp22 kp22 np22
      obtain ⟨rfl, rfl, e22⟩ := hQ22
      try rw [List.append_nil] at X22
      refine own_tr (S' := T22.setTop (mkF m 302 #[.val (.int p0), .val (.int p1), .val (.int p2), .val (.int p3), .val (.int p4), .val (.int p5), .val (.int kk), .val (.ref d), .val (.ref sc), .val (.ref ms), .val (.ref b1), .val (.int dp), .val (.int z14_0), .val (.ref b1), .val (.ref b1), .val (.ref b1)] [(.ref b1)])) st22 ?_
      refine own_via (S' := T22.setTop (mkF m 304 #[.val (.int p0), .val (.int p1), .val (.int p2), .val (.int p3), .val (.int p4), .val (.int p5), .val (.int kk), .val (.ref d), .val (.ref sc), .val (.ref ms), .val (.ref b1), .val (.int dp), .val (.int z14_0), .val (.ref b1), .val (.ref b1), .val (.ref b1)] [(.ref b1), (.ref b1)])) (fun t k => XS.aload X22.here hx rfl (hb hby at_302) rfl rfl k) ?_
      refine own_via (S' := T22.setTop (mkF m 307 #[.val (.int p0), .val (.int p1), .val (.int p2), .val (.int p3), .val (.int p4), .val (.int p5), .val (.int kk), .val (.ref d), .val (.ref sc), .val (.ref ms), .val (.ref b1), .val (.int dp), .val (.int z14_0), .val (.ref b1), .val (.ref b1), .val (.ref b1)] [])) (fun t k => Jvm.RoadKit.acmp (g := (mkF m 304 #[.val (.int p0), .val (.int p1), .val (.int p2), .val (.int p3), .val (.int p4), .val (.int p5), .val (.int kk), .val (.ref d), .val (.ref sc), .val (.ref ms), .val (.ref b1), .val (.int dp), .val (.int z14_0), .val (.ref b1), .val (.ref b1), .val (.ref b1)] [(.ref b1), (.ref b1)])) X22 hx rfl rfl rfl (pc0 := 304) (pc' := 307) (same := true) rfl (hb hby at_304) rfl (decide_eq_true rfl) (by decide) (by decide) k) ?_
      refine own_via (S' := T22.setTop (mkF m 308 #[.val (.int p0), .val (.int p1), .val (.int p2), .val (.int p3), .val (.int p4), .val (.int p5), .val (.int kk), .val (.ref d), .val (.ref sc), .val (.ref ms), .val (.ref b1), .val (.int dp), .val (.int z14_0), .val (.ref b1), .val (.ref b1), .val (.ref b1)] [(.int (1 : Int32))])) (fun t k => XS.iconst X22.here hx rfl (hb hby at_307) k) ?_
      refine own_via (S' := T22.setTop (mkF m 312 #[.val (.int p0), .val (.int p1), .val (.int p2), .val (.int p3), .val (.int p4), .val (.int p5), .val (.int kk), .val (.ref d), .val (.ref sc), .val (.ref ms), .val (.ref b1), .val (.int dp), .val (.int z14_0), .val (.ref b1), .val (.ref b1), .val (.ref b1)] [(.int (1 : Int32))])) (fun t k => XS.goto X22.here hx rfl (pc0 := 308) (pc' := 312) rfl (hb hby at_308) (by decide) (by decide) k) ?_
      have RTR12 : CHr Z own_EL s.vm h0 T22.vm T5.heap := R12.trans (CHv.at X22 hZ hEL R12.1)
      have RXR12 : CHr Z own_EL s.vm s.heap T22.vm T22.heap := by rw [hh, e22]; exact RTR12
      refine own_retW (Q := Q_own_law Z p0 p1 p2 p3 p4 p5 zc wP wD wN wI wO wM wG wY h0 n0) (C := room_1.cells) (N := room_1.slots) X22 hSn5 (by rw [e22]; omega) (v := some (.int (1 : Int32))) (fun h => by rw [hret] at h; cases h) hsync ?_ RXR12 (by decide) (by decide) (fun fs hr => retN X22 hx (t := .boolean) hret (by simp) (hb hby at_312) hr)
      show Q_own_law Z p0 p1 p2 p3 p4 p5 zc wP wD wN wI wO wM wG wY h0 n0 _ T22.vm T22.heap _
      rw [e22]
      exact ⟨rfl, N5⟩
    · -- no
      refine own_via (S' := Tm14.setTop (mkF m 259 #[.val (.int p0), .val (.int p1), .val (.int p2), .val (.int p3), .val (.int p4), .val (.int p5), .val (.int kk), .val (.ref d), .val (.ref sc), .val (.ref ms), .val (.ref b1), .val (.int dp), .val (.int z14_0), .val (.ref b1), .val (.ref b1), .unset] [])) (fun t k => XS.ifNo Xm14.here hx rfl (hb hby at_256) rfl ((if0 _ _).trans (feq hc256_19).1) k) ?_
      refine own_via (S' := Tm14.setTop (mkF m 261 #[.val (.int p0), .val (.int p1), .val (.int p2), .val (.int p3), .val (.int p4), .val (.int p5), .val (.int kk), .val (.ref d), .val (.ref sc), .val (.ref ms), .val (.ref b1), .val (.int dp), .val (.int z14_0), .val (.ref b1), .val (.ref b1), .unset] [(.ref b1)])) (fun t k => XS.aload Xm14.here hx rfl (hb hby at_259) rfl rfl k) ?_
      have hk23 : T5.heap.size ≤ Tm14.heap.size := by rw [em14]; omega
      have cx24 : Exa Z T5.heap b1 "com/example/object_access_rules/objectaccessrules/Result" := (A1.keep K5q)
      obtain ⟨cq23, kq23, q23a, q23b, q23c⟩ := isOf hZ em14 cx24
      obtain ⟨_, _, ⟨T23, Lp23, kp23, np23⟩, -, X23, hS23, hgr23, ⟨Lc23, ⟨hQ23, R23q⟩, l23, y23, z23⟩, st23⟩ := Xm14.virtualBackS hx (y := mt9) (z := mt9) hown (mvT hZ (wd89 hw)) (mvT hZ (wd90 hw)) (notFace_of_selects (args := #[]) (mvT hZ (wd92 hw))) (mvT hZ (wd92 hw)) (mvT hZ (wd91 hw)) (by decide) (own_backW (SL := []) (W := 0) (own_adN l Z a0 hw [] b1 wI wO wD T5.heap n0 O13 zf_S_com_example_object_access_rules_objectaccessrules_Decision_INDETERMINATE zf_S_com_example_object_access_rules_objectaccessrules_StatusCode_OK zf_S_com_example_object_access_rules_objectaccessrules_Decision_DENY zf_E_wD zf_E_wO f5_3 f5_4 hD.2.2.2.2.1) hZ (wd93 hw) (wd18 hw) (by decide) (by decide) hEL R12.1 all0) q23a q23c (g := (mkF m 261 #[.val (.int p0), .val (.int p1), .val (.int p2), .val (.int p3), .val (.int p4), .val (.int p5), .val (.int kk), .val (.ref d), .val (.ref sc), .val (.ref ms), .val (.ref b1), .val (.int dp), .val (.int z14_0), .val (.ref b1), .val (.ref b1), .unset] [(.ref b1)])) rfl (by rw [hml]; rfl) (Steps.refl _) (argsL := []) (rest := []) (lenOf pd___Lcom_example_object_access_rules_objectaccessrules_Result__5924 rfl) rfl (by show 2 * 0 + _ ≤ _; exact Nat.le_of_eq rfl) (hb hby at_261) (fun _ _ => ⟨rfl, em14, (by decide : 11 + 9 ≤ _), (by decide : 125 + 105 ≤ _)⟩)
      dsimp only [Pt.U, Pt.locs, Pt.cells, Pt.slots] at X23 l23 y23 z23 st23 hQ23 hS23 hgr23 R23q
      subst Lp23 kp23 np23
      obtain ⟨X23, hSn23, hZ, hown⟩ := rebS hSn5 hk23 X23 hS23 hgr23 hZ hown
      obtain ⟨b23, rfl, N23q, K23q, f23_0, f23_1, f23_2⟩ := hQ23
      have N23 := Fr.app N5 N23q
      have sz25 : T5.heap.size ≤ T23.heap.size := K23q.1
      have R26 : CHr Z own_EL s.vm h0 T23.vm T23.heap := R12.trans R23q
      have O27 : Old Z n0 T23.heap := O13.keep K23q all0
      have lt28_b23 : T23.heap.size > b23 := f23_0.lt
      have lt29_b23 : T23.heap.size > b23 := f23_1.lt
      have lt30_b23 : T23.heap.size > b23 := f23_2.lt
      refine own_tr (S' := T23.setTop (mkF m 264 #[.val (.int p0), .val (.int p1), .val (.int p2), .val (.int p3), .val (.int p4), .val (.int p5), .val (.int kk), .val (.ref d), .val (.ref sc), .val (.ref ms), .val (.ref b1), .val (.int dp), .val (.int z14_0), .val (.ref b1), .val (.ref b1), .unset] [(.ref b23)])) st23 ?_
      refine own_via (S' := T23.setTop (mkF m 266 #[.val (.int p0), .val (.int p1), .val (.int p2), .val (.int p3), .val (.int p4), .val (.int p5), .val (.int kk), .val (.ref d), .val (.ref sc), .val (.ref ms), .val (.ref b1), .val (.int dp), .val (.int z14_0), .val (.ref b23), .val (.ref b1), .unset] [])) (fun t k => XS.astore X23.here hx rfl (hb hby at_264) rfl rfl (l' := #[.val (.int p0), .val (.int p1), .val (.int p2), .val (.int p3), .val (.int p4), .val (.int p5), .val (.int kk), .val (.ref d), .val (.ref sc), .val (.ref ms), .val (.ref b1), .val (.int dp), .val (.int z14_0), .val (.ref b23), .val (.ref b1), .unset]) rfl k) ?_
      refine own_via (S' := T23.setTop (mkF m 268 #[.val (.int p0), .val (.int p1), .val (.int p2), .val (.int p3), .val (.int p4), .val (.int p5), .val (.int kk), .val (.ref d), .val (.ref sc), .val (.ref ms), .val (.ref b1), .val (.int dp), .val (.int z14_0), .val (.ref b23), .val (.ref b1), .unset] [(.int dp)])) (fun t k => XS.iload X23.here hx rfl (hb hby at_266) rfl k) ?_
      have hc268_31 : dp = (0 : Int32) := own_dp0 hn_dp hc185_16
      refine own_via (S' := T23.setTop (mkF m 279 #[.val (.int p0), .val (.int p1), .val (.int p2), .val (.int p3), .val (.int p4), .val (.int p5), .val (.int kk), .val (.ref d), .val (.ref sc), .val (.ref ms), .val (.ref b1), .val (.int dp), .val (.int z14_0), .val (.ref b23), .val (.ref b1), .unset] [])) (fun t k => XS.ifYes X23.here hx rfl (pc0 := 268) (pc' := 279) rfl (hb hby at_268) rfl ((if0 _ _).trans (teq hc268_31).1) (by decide) (by decide) k) ?_
      refine own_via (S' := T23.setTop (mkF m 281 #[.val (.int p0), .val (.int p1), .val (.int p2), .val (.int p3), .val (.int p4), .val (.int p5), .val (.int kk), .val (.ref d), .val (.ref sc), .val (.ref ms), .val (.ref b1), .val (.int dp), .val (.int z14_0), .val (.ref b23), .val (.ref b1), .unset] [(.ref b23)])) (fun t k => XS.aload X23.here hx rfl (hb hby at_279) rfl rfl k) ?_
      refine own_via (S' := T23.setTop (mkF m 283 #[.val (.int p0), .val (.int p1), .val (.int p2), .val (.int p3), .val (.int p4), .val (.int p5), .val (.int kk), .val (.ref d), .val (.ref sc), .val (.ref ms), .val (.ref b1), .val (.int dp), .val (.int z14_0), .val (.ref b23), .val (.ref b23), .unset] [])) (fun t k => XS.astore X23.here hx rfl (hb hby at_281) rfl rfl (l' := #[.val (.int p0), .val (.int p1), .val (.int p2), .val (.int p3), .val (.int p4), .val (.int p5), .val (.int kk), .val (.ref d), .val (.ref sc), .val (.ref ms), .val (.ref b1), .val (.int dp), .val (.int z14_0), .val (.ref b23), .val (.ref b23), .unset]) rfl k) ?_
      refine own_via (S' := T23.setTop (mkF m 285 #[.val (.int p0), .val (.int p1), .val (.int p2), .val (.int p3), .val (.int p4), .val (.int p5), .val (.int kk), .val (.ref d), .val (.ref sc), .val (.ref ms), .val (.ref b1), .val (.int dp), .val (.int z14_0), .val (.ref b23), .val (.ref b23), .unset] [(.ref b23)])) (fun t k => XS.aload X23.here hx rfl (hb hby at_283) rfl rfl k) ?_
      obtain ⟨cq32, kq32, q32a, q32b, q32c⟩ := isOf hZ rfl f23_0
      obtain ⟨_, _, ⟨T32, Lp32, kp32, np32⟩, -, X32, ⟨Lc32, hQ32, l32, y32, z32⟩, st32⟩ := X23.virtualBack hx (y := mt10) (z := mt10) hown (mvT hZ (wd84 hw)) (mvT hZ (wd85 hw)) (notFace_of_selects (args := #[]) (mvT hZ (wd87 hw))) (mvT hZ (wd87 hw)) (mvT hZ (wd86 hw)) (by decide) (backOf (W := 0) (own_og0 l Z a0 hw [] b23 T23.heap n0 O27 f23_2) hZ (wd88 hw) (wd18 hw) (by decide) (by decide)) q32a q32c (g := (mkF m 285 #[.val (.int p0), .val (.int p1), .val (.int p2), .val (.int p3), .val (.int p4), .val (.int p5), .val (.int kk), .val (.ref d), .val (.ref sc), .val (.ref ms), .val (.ref b1), .val (.int dp), .val (.int z14_0), .val (.ref b23), .val (.ref b23), .unset] [(.ref b23)])) rfl (by rw [hml]; rfl) (Steps.refl _) (argsL := []) (rest := []) (lenOf pd___Lcom_example_object_access_rules_objectaccessrules_Result__5924 rfl) rfl (by show 2 * 0 + _ ≤ _; exact Nat.le_of_eq rfl) (hb hby at_285) (fun _ _ => ⟨rfl, rfl, (by decide : 20 + 0 ≤ _), (by decide : 230 + 0 ≤ _)⟩)
      dsimp only [Pt.U, Pt.locs, Pt.cells, Pt.slots] at X32 l32 y32 z32 st32 hQ32
      subst Lp32 kp32 np32
      obtain ⟨rfl, rfl, e32⟩ := hQ32
      try rw [List.append_nil] at X32
      refine own_tr (S' := T32.setTop (mkF m 288 #[.val (.int p0), .val (.int p1), .val (.int p2), .val (.int p3), .val (.int p4), .val (.int p5), .val (.int kk), .val (.ref d), .val (.ref sc), .val (.ref ms), .val (.ref b1), .val (.int dp), .val (.int z14_0), .val (.ref b23), .val (.ref b23), .unset] [(.ref b23)])) st32 ?_
      refine own_via (S' := T32.setTop (mkF m 290 #[.val (.int p0), .val (.int p1), .val (.int p2), .val (.int p3), .val (.int p4), .val (.int p5), .val (.int kk), .val (.ref d), .val (.ref sc), .val (.ref ms), .val (.ref b1), .val (.int dp), .val (.int z14_0), .val (.ref b23), .val (.ref b23), .val (.ref b23)] [])) (fun t k => XS.astore X32.here hx rfl (hb hby at_288) rfl rfl (l' := #[.val (.int p0), .val (.int p1), .val (.int p2), .val (.int p3), .val (.int p4), .val (.int p5), .val (.int kk), .val (.ref d), .val (.ref sc), .val (.ref ms), .val (.ref b1), .val (.int dp), .val (.int z14_0), .val (.ref b23), .val (.ref b23), .val (.ref b23)]) rfl k) ?_
      refine own_via (S' := T32.setTop (mkF m 292 #[.val (.int p0), .val (.int p1), .val (.int p2), .val (.int p3), .val (.int p4), .val (.int p5), .val (.int kk), .val (.ref d), .val (.ref sc), .val (.ref ms), .val (.ref b1), .val (.int dp), .val (.int z14_0), .val (.ref b23), .val (.ref b23), .val (.ref b23)] [(.ref b23)])) (fun t k => XS.aload X32.here hx rfl (hb hby at_290) rfl rfl k) ?_
      refine own_via (S' := T32.setTop (mkF m 294 #[.val (.int p0), .val (.int p1), .val (.int p2), .val (.int p3), .val (.int p4), .val (.int p5), .val (.int kk), .val (.ref d), .val (.ref sc), .val (.ref ms), .val (.ref b1), .val (.int dp), .val (.int z14_0), .val (.ref b23), .val (.ref b23), .val (.ref b23)] [(.ref b23), (.ref b23)])) (fun t k => XS.aload X32.here hx rfl (hb hby at_292) rfl rfl k) ?_
      refine own_via (S' := T32.setTop (mkF m 297 #[.val (.int p0), .val (.int p1), .val (.int p2), .val (.int p3), .val (.int p4), .val (.int p5), .val (.int kk), .val (.ref d), .val (.ref sc), .val (.ref ms), .val (.ref b1), .val (.int dp), .val (.int z14_0), .val (.ref b23), .val (.ref b23), .val (.ref b23)] [])) (fun t k => Jvm.RoadKit.acmp (g := (mkF m 294 #[.val (.int p0), .val (.int p1), .val (.int p2), .val (.int p3), .val (.int p4), .val (.int p5), .val (.int kk), .val (.ref d), .val (.ref sc), .val (.ref ms), .val (.ref b1), .val (.int dp), .val (.int z14_0), .val (.ref b23), .val (.ref b23), .val (.ref b23)] [(.ref b23), (.ref b23)])) X32 hx rfl rfl rfl (pc0 := 294) (pc' := 297) (same := true) rfl (hb hby at_294) rfl (decide_eq_true rfl) (by decide) (by decide) k) ?_
      refine own_via (S' := T32.setTop (mkF m 299 #[.val (.int p0), .val (.int p1), .val (.int p2), .val (.int p3), .val (.int p4), .val (.int p5), .val (.int kk), .val (.ref d), .val (.ref sc), .val (.ref ms), .val (.ref b1), .val (.int dp), .val (.int z14_0), .val (.ref b23), .val (.ref b23), .val (.ref b23)] [(.ref b23)])) (fun t k => XS.aload X32.here hx rfl (hb hby at_297) rfl rfl k) ?_
      obtain ⟨cq33, kq33, q33a, q33b, q33c⟩ := isOf hZ e32 f23_0
      obtain ⟨_, _, ⟨T33, Lp33, kp33, np33⟩, -, X33, ⟨Lc33, hQ33, l33, y33, z33⟩, st33⟩ := X32.virtualBack hx (y := mt10) (z := mt10) hown (mvT hZ (wd84 hw)) (mvT hZ (wd85 hw)) (notFace_of_selects (args := #[]) (mvT hZ (wd87 hw))) (mvT hZ (wd87 hw)) (mvT hZ (wd86 hw)) (by decide) (backOf (W := 0) (own_og0 l Z a0 hw [] b23 T23.heap n0 O27 f23_2) hZ (wd88 hw) (wd18 hw) (by decide) (by decide)) q33a q33c (g := (mkF m 299 #[.val (.int p0), .val (.int p1), .val (.int p2), .val (.int p3), .val (.int p4), .val (.int p5), .val (.int kk), .val (.ref d), .val (.ref sc), .val (.ref ms), .val (.ref b1), .val (.int dp), .val (.int z14_0), .val (.ref b23), .val (.ref b23), .val (.ref b23)] [(.ref b23)])) rfl (by rw [hml]; rfl) (Steps.refl _) (argsL := []) (rest := []) (lenOf pd___Lcom_example_object_access_rules_objectaccessrules_Result__5924 rfl) rfl (by show 2 * 0 + _ ≤ _; exact Nat.le_of_eq rfl) (hb hby at_299) (fun _ _ => ⟨rfl, e32, (by decide : 20 + 0 ≤ _), (by decide : 230 + 0 ≤ _)⟩)
      dsimp only [Pt.U, Pt.locs, Pt.cells, Pt.slots] at X33 l33 y33 z33 st33 hQ33
      subst Lp33 kp33 np33
      obtain ⟨rfl, rfl, e33⟩ := hQ33
      try rw [List.append_nil] at X33
      refine own_tr (S' := T33.setTop (mkF m 302 #[.val (.int p0), .val (.int p1), .val (.int p2), .val (.int p3), .val (.int p4), .val (.int p5), .val (.int kk), .val (.ref d), .val (.ref sc), .val (.ref ms), .val (.ref b1), .val (.int dp), .val (.int z14_0), .val (.ref b23), .val (.ref b23), .val (.ref b23)] [(.ref b23)])) st33 ?_
      refine own_via (S' := T33.setTop (mkF m 304 #[.val (.int p0), .val (.int p1), .val (.int p2), .val (.int p3), .val (.int p4), .val (.int p5), .val (.int kk), .val (.ref d), .val (.ref sc), .val (.ref ms), .val (.ref b1), .val (.int dp), .val (.int z14_0), .val (.ref b23), .val (.ref b23), .val (.ref b23)] [(.ref b23), (.ref b23)])) (fun t k => XS.aload X33.here hx rfl (hb hby at_302) rfl rfl k) ?_
      refine own_via (S' := T33.setTop (mkF m 307 #[.val (.int p0), .val (.int p1), .val (.int p2), .val (.int p3), .val (.int p4), .val (.int p5), .val (.int kk), .val (.ref d), .val (.ref sc), .val (.ref ms), .val (.ref b1), .val (.int dp), .val (.int z14_0), .val (.ref b23), .val (.ref b23), .val (.ref b23)] [])) (fun t k => Jvm.RoadKit.acmp (g := (mkF m 304 #[.val (.int p0), .val (.int p1), .val (.int p2), .val (.int p3), .val (.int p4), .val (.int p5), .val (.int kk), .val (.ref d), .val (.ref sc), .val (.ref ms), .val (.ref b1), .val (.int dp), .val (.int z14_0), .val (.ref b23), .val (.ref b23), .val (.ref b23)] [(.ref b23), (.ref b23)])) X33 hx rfl rfl rfl (pc0 := 304) (pc' := 307) (same := true) rfl (hb hby at_304) rfl (decide_eq_true rfl) (by decide) (by decide) k) ?_
      refine own_via (S' := T33.setTop (mkF m 308 #[.val (.int p0), .val (.int p1), .val (.int p2), .val (.int p3), .val (.int p4), .val (.int p5), .val (.int kk), .val (.ref d), .val (.ref sc), .val (.ref ms), .val (.ref b1), .val (.int dp), .val (.int z14_0), .val (.ref b23), .val (.ref b23), .val (.ref b23)] [(.int (1 : Int32))])) (fun t k => XS.iconst X33.here hx rfl (hb hby at_307) k) ?_
      refine own_via (S' := T33.setTop (mkF m 312 #[.val (.int p0), .val (.int p1), .val (.int p2), .val (.int p3), .val (.int p4), .val (.int p5), .val (.int kk), .val (.ref d), .val (.ref sc), .val (.ref ms), .val (.ref b1), .val (.int dp), .val (.int z14_0), .val (.ref b23), .val (.ref b23), .val (.ref b23)] [(.int (1 : Int32))])) (fun t k => XS.goto X33.here hx rfl (pc0 := 308) (pc' := 312) rfl (hb hby at_308) (by decide) (by decide) k) ?_
      have RTR26 : CHr Z own_EL s.vm h0 T33.vm T23.heap := R26.trans (CHv.at X33 hZ hEL R26.1)
      have RXR26 : CHr Z own_EL s.vm s.heap T33.vm T33.heap := by rw [hh, e33]; exact RTR26
      refine own_retW (Q := Q_own_law Z p0 p1 p2 p3 p4 p5 zc wP wD wN wI wO wM wG wY h0 n0) (C := room_1.cells) (N := room_1.slots) X33 hSn23 (by rw [e33]; omega) (v := some (.int (1 : Int32))) (fun h => by rw [hret] at h; cases h) hsync ?_ RXR26 (by decide) (by decide) (fun fs hr => retN X33 hx (t := .boolean) hret (by simp) (hb hby at_312) hr)
      show Q_own_law Z p0 p1 p2 p3 p4 p5 zc wP wD wN wI wO wM wG wY h0 n0 _ T33.vm T33.heap _
      rw [e33]
      exact ⟨rfl, N23⟩
  · -- no
    refine own_via (S' := Tm14.setTop (mkF m 188 #[.val (.int p0), .val (.int p1), .val (.int p2), .val (.int p3), .val (.int p4), .val (.int p5), .val (.int kk), .val (.ref d), .val (.ref sc), .val (.ref ms), .val (.ref b1), .val (.int dp), .val (.int z14_0), .val (.ref b1), .unset, .unset] [])) (fun t k => XS.icmpNo Xm14.here hx rfl (hb hby at_185) rfl (flt hc185_16).1 k) ?_
    refine own_via (S' := Tm14.setTop (mkF m 190 #[.val (.int p0), .val (.int p1), .val (.int p2), .val (.int p3), .val (.int p4), .val (.int p5), .val (.int kk), .val (.ref d), .val (.ref sc), .val (.ref ms), .val (.ref b1), .val (.int dp), .val (.int z14_0), .val (.ref b1), .unset, .unset] [(.ref b1)])) (fun t k => XS.aload Xm14.here hx rfl (hb hby at_188) rfl rfl k) ?_
    refine own_via (S' := Tm14.setTop (mkF m 191 #[.val (.int p0), .val (.int p1), .val (.int p2), .val (.int p3), .val (.int p4), .val (.int p5), .val (.int kk), .val (.ref d), .val (.ref sc), .val (.ref ms), .val (.ref b1), .val (.int dp), .val (.int z14_0), .val (.ref b1), .unset, .unset] [(.int p3), (.ref b1)])) (fun t k => XS.iloadN Xm14.here hx rfl (hb hby at_190) rfl k) ?_
    refine own_via (S' := Tm14.setTop (mkF m 194 #[.val (.int p0), .val (.int p1), .val (.int p2), .val (.int p3), .val (.int p4), .val (.int p5), .val (.int kk), .val (.ref d), .val (.ref sc), .val (.ref ms), .val (.ref b1), .val (.int dp), .val (.int z14_0), .val (.ref b1), .unset, .unset] [(.int (255 : Int32)), (.int p3), (.ref b1)])) (fun t k => XS.sipush Xm14.here hx rfl (hb hby at_191) k) ?_
    refine own_via (S' := Tm14.setTop (mkF m 195 #[.val (.int p0), .val (.int p1), .val (.int p2), .val (.int p3), .val (.int p4), .val (.int p5), .val (.int kk), .val (.ref d), .val (.ref sc), .val (.ref ms), .val (.ref b1), .val (.int dp), .val (.int z14_0), .val (.ref b1), .unset, .unset] [(.int (p3 &&& (255 : Int32))), (.ref b1)])) (fun t k => XS.iand Xm14.here hx rfl (hb hby at_194) rfl k) ?_
    refine own_via (S' := Tm14.setTop (mkF m 196 #[.val (.int p0), .val (.int p1), .val (.int p2), .val (.int p3), .val (.int p4), .val (.int p5), .val (.int kk), .val (.ref d), .val (.ref sc), .val (.ref ms), .val (.ref b1), .val (.int dp), .val (.int z14_0), .val (.ref b1), .unset, .unset] [(.int ((p3 &&& (255 : Int32)).toUInt32.toUInt16.toUInt32.toInt32)), (.ref b1)])) (fun t k => XS.i2c Xm14.here hx rfl (hb hby at_195) rfl k) ?_
    obtain ⟨ch1, hn_ch1⟩ : ∃ z : Int32, z = ((p3 &&& (255 : Int32)).toUInt32.toUInt16.toUInt32.toInt32) := ⟨_, rfl⟩
    rw [← hn_ch1]
    have rng_ch1 : ¬ ch1 < 0 ∧ ¬ (255 : Int32) < ch1 := by rw [hn_ch1]; exact own_and255 _
    obtain ⟨_, _, ⟨T34, Lp34, kp34, np34⟩, -, X34, ⟨Lc34, hQ34, l34, y34, z34⟩, st34⟩ := Jvm.LawKit.callS Xm14 hx (y := mt7) hown (mvT hZ (wd59 hw)) (mvT hZ (wd60 hw)) (mvT hZ (wd9 hw)) (mvT hZ (wd61 hw)) (by decide) (backOf (W := 1) (own_valueOf l Z a0 hw [] ch1 zc T5.heap n0 O13 zf_S_java_lang_String_COMPACT_STRINGS hzc rng_ch1) hZ (wd61 hw) (wd9 hw) (by decide) (by decide)) (g := (mkF m 196 #[.val (.int p0), .val (.int p1), .val (.int p2), .val (.int p3), .val (.int p4), .val (.int p5), .val (.int kk), .val (.ref d), .val (.ref sc), .val (.ref ms), .val (.ref b1), .val (.int dp), .val (.int z14_0), .val (.ref b1), .unset, .unset] [(.int ch1), (.ref b1)])) rfl (by rw [hml]; rfl) (argsL := [(.int ch1)]) (rest := [(.ref b1)]) (lenOf pd__C_Ljava_lang_String__1844 rfl) rfl (by show 2 * 0 + _ ≤ _; exact Nat.le_of_eq rfl) (hb hby at_196) (fun _ _ => ⟨rfl, em14, (by decide : 11 + 2 ≤ _), (by decide : 125 + 5 ≤ _)⟩)
    dsimp only [Pt.U, Pt.locs, Pt.cells, Pt.slots] at X34 l34 y34 z34 st34 hQ34
    subst Lp34 kp34 np34
    obtain ⟨b34, rfl, N34q, K34q, f34_0⟩ := hQ34
    have N34 := Fr.app N5 N34q
    have sf34 : ∀ x ∈ ([] : List Addr), Safe Z own_EL T5.vm T5.heap x := sf0
    have sz35 : T5.heap.size ≤ T34.heap.size := K34q.1
    have R36 : CHr Z own_EL s.vm h0 T5.vm T34.heap := R12.trans (CHr.keep K34q sf34 R12.1)
    have O37 : Old Z n0 T34.heap := O13.keep K34q all0
    have lt38_b34 : T34.heap.size > b34 := f34_0.lt
    refine own_via (S' := T34.setTop (mkF m 199 #[.val (.int p0), .val (.int p1), .val (.int p2), .val (.int p3), .val (.int p4), .val (.int p5), .val (.int kk), .val (.ref d), .val (.ref sc), .val (.ref ms), .val (.ref b1), .val (.int dp), .val (.int z14_0), .val (.ref b1), .unset, .unset] [(.ref b34), (.ref b1)])) st34 ?_
    by_cases hs199_39 : d = wN
    · -- split
      have cx41 : Fld Z T34.heap b1 "com/example/object_access_rules/objectaccessrules/Result" "decision" "Lcom/example/object_access_rules/objectaccessrules/Decision;" (.ref d) := (f5_0.keep K34q nin0)
      have cx42 : Exa Z T34.heap b1 "com/example/object_access_rules/objectaccessrules/Result" := ((A1.keep K5q).keep K34q)
      obtain ⟨cq40, kq40, q40a, q40b, q40c⟩ := isOf hZ rfl cx42
      obtain ⟨_, _, ⟨T40, Lp40, kp40, np40⟩, -, X40, ⟨Lc40, hQ40, l40, y40, z40⟩, st40⟩ := X34.virtualBack hx (y := mt8) (z := mt8) hown (mvT hZ (wd76 hw)) (mvT hZ (wd77 hw)) (notFace_of_selects (args := #[]) (mvT hZ (wd79 hw))) (mvT hZ (wd79 hw)) (mvT hZ (wd78 hw)) (by decide) (backOf (W := 0) (own_thrN l Z a0 hw [] b1 b34 d wN T34.heap n0 O37 zf_S_com_example_object_access_rules_objectaccessrules_Decision_NOT_APPLICABLE cx41 hs199_39) hZ (wd80 hw) (wd18 hw) (by decide) (by decide)) q40a q40c (g := (mkF m 199 #[.val (.int p0), .val (.int p1), .val (.int p2), .val (.int p3), .val (.int p4), .val (.int p5), .val (.int kk), .val (.ref d), .val (.ref sc), .val (.ref ms), .val (.ref b1), .val (.int dp), .val (.int z14_0), .val (.ref b1), .unset, .unset] [(.ref b34), (.ref b1)])) rfl (by rw [hml]; rfl) (Steps.refl _) (argsL := [(.ref b34)]) (rest := []) (lenOf pd__Ljava_lang_String__Lcom_example_object_access_rules_objectaccessrules_Result__7620 rfl) rfl (by show 2 * 0 + _ ≤ _; exact Nat.le_of_eq rfl) (hb hby at_199) (fun _ _ => ⟨rfl, rfl, (by decide : 13 + 0 ≤ _), (by decide : 130 + 0 ≤ _)⟩)
      dsimp only [Pt.U, Pt.locs, Pt.cells, Pt.slots] at X40 l40 y40 z40 st40 hQ40
      subst Lp40 kp40 np40
      obtain ⟨rfl, rfl, e40⟩ := hQ40
      try rw [List.append_nil] at X40
      refine own_tr (S' := T40.setTop (mkF m 202 #[.val (.int p0), .val (.int p1), .val (.int p2), .val (.int p3), .val (.int p4), .val (.int p5), .val (.int kk), .val (.ref d), .val (.ref sc), .val (.ref ms), .val (.ref b1), .val (.int dp), .val (.int z14_0), .val (.ref b1), .unset, .unset] [(.ref b1)])) st40 ?_
      refine own_via (S' := T40.setTop (mkF m 204 #[.val (.int p0), .val (.int p1), .val (.int p2), .val (.int p3), .val (.int p4), .val (.int p5), .val (.int kk), .val (.ref d), .val (.ref sc), .val (.ref ms), .val (.ref b1), .val (.int dp), .val (.int z14_0), .val (.ref b1), .unset, .unset] [])) (fun t k => XS.astore X40.here hx rfl (hb hby at_202) rfl rfl (l' := #[.val (.int p0), .val (.int p1), .val (.int p2), .val (.int p3), .val (.int p4), .val (.int p5), .val (.int kk), .val (.ref d), .val (.ref sc), .val (.ref ms), .val (.ref b1), .val (.int dp), .val (.int z14_0), .val (.ref b1), .unset, .unset]) rfl k) ?_
      refine own_via (S' := T40.setTop (mkF m 206 #[.val (.int p0), .val (.int p1), .val (.int p2), .val (.int p3), .val (.int p4), .val (.int p5), .val (.int kk), .val (.ref d), .val (.ref sc), .val (.ref ms), .val (.ref b1), .val (.int dp), .val (.int z14_0), .val (.ref b1), .unset, .unset] [(.int dp)])) (fun t k => XS.iload X40.here hx rfl (hb hby at_204) rfl k) ?_
      refine own_via (S' := T40.setTop (mkF m 207 #[.val (.int p0), .val (.int p1), .val (.int p2), .val (.int p3), .val (.int p4), .val (.int p5), .val (.int kk), .val (.ref d), .val (.ref sc), .val (.ref ms), .val (.ref b1), .val (.int dp), .val (.int z14_0), .val (.ref b1), .unset, .unset] [(.int (2 : Int32)), (.int dp)])) (fun t k => XS.iconst X40.here hx rfl (hb hby at_206) k) ?_
      by_cases hc207_43 : dp < (2 : Int32)
      · -- yes
        refine own_via (S' := T40.setTop (mkF m 227 #[.val (.int p0), .val (.int p1), .val (.int p2), .val (.int p3), .val (.int p4), .val (.int p5), .val (.int kk), .val (.ref d), .val (.ref sc), .val (.ref ms), .val (.ref b1), .val (.int dp), .val (.int z14_0), .val (.ref b1), .unset, .unset] [])) (fun t k => XS.icmpYes X40.here hx rfl (pc0 := 207) (pc' := 227) rfl (hb hby at_207) rfl (tlt hc207_43).1 (by decide) (by decide) k) ?_
        refine own_via (S' := T40.setTop (mkF m 229 #[.val (.int p0), .val (.int p1), .val (.int p2), .val (.int p3), .val (.int p4), .val (.int p5), .val (.int kk), .val (.ref d), .val (.ref sc), .val (.ref ms), .val (.ref b1), .val (.int dp), .val (.int z14_0), .val (.ref b1), .unset, .unset] [(.int dp)])) (fun t k => XS.iload X40.here hx rfl (hb hby at_227) rfl k) ?_
        refine own_via (S' := T40.setTop (mkF m 230 #[.val (.int p0), .val (.int p1), .val (.int p2), .val (.int p3), .val (.int p4), .val (.int p5), .val (.int kk), .val (.ref d), .val (.ref sc), .val (.ref ms), .val (.ref b1), .val (.int dp), .val (.int z14_0), .val (.ref b1), .unset, .unset] [(.int (3 : Int32)), (.int dp)])) (fun t k => XS.iconst X40.here hx rfl (hb hby at_229) k) ?_
        have hc230_44 : dp < (3 : Int32) := own_ltt hc207_43 (by decide)
        refine own_via (S' := T40.setTop (mkF m 250 #[.val (.int p0), .val (.int p1), .val (.int p2), .val (.int p3), .val (.int p4), .val (.int p5), .val (.int kk), .val (.ref d), .val (.ref sc), .val (.ref ms), .val (.ref b1), .val (.int dp), .val (.int z14_0), .val (.ref b1), .unset, .unset] [])) (fun t k => XS.icmpYes X40.here hx rfl (pc0 := 230) (pc' := 250) rfl (hb hby at_230) rfl (tlt hc230_44).1 (by decide) (by decide) k) ?_
        refine own_via (S' := T40.setTop (mkF m 252 #[.val (.int p0), .val (.int p1), .val (.int p2), .val (.int p3), .val (.int p4), .val (.int p5), .val (.int kk), .val (.ref d), .val (.ref sc), .val (.ref ms), .val (.ref b1), .val (.int dp), .val (.int z14_0), .val (.ref b1), .unset, .unset] [(.ref b1)])) (fun t k => XS.aload X40.here hx rfl (hb hby at_250) rfl rfl k) ?_
        refine own_via (S' := T40.setTop (mkF m 254 #[.val (.int p0), .val (.int p1), .val (.int p2), .val (.int p3), .val (.int p4), .val (.int p5), .val (.int kk), .val (.ref d), .val (.ref sc), .val (.ref ms), .val (.ref b1), .val (.int dp), .val (.int z14_0), .val (.ref b1), .val (.ref b1), .unset] [])) (fun t k => XS.astore X40.here hx rfl (hb hby at_252) rfl rfl (l' := #[.val (.int p0), .val (.int p1), .val (.int p2), .val (.int p3), .val (.int p4), .val (.int p5), .val (.int kk), .val (.ref d), .val (.ref sc), .val (.ref ms), .val (.ref b1), .val (.int dp), .val (.int z14_0), .val (.ref b1), .val (.ref b1), .unset]) rfl k) ?_
        refine own_via (S' := T40.setTop (mkF m 256 #[.val (.int p0), .val (.int p1), .val (.int p2), .val (.int p3), .val (.int p4), .val (.int p5), .val (.int kk), .val (.ref d), .val (.ref sc), .val (.ref ms), .val (.ref b1), .val (.int dp), .val (.int z14_0), .val (.ref b1), .val (.ref b1), .unset] [(.int z14_0)])) (fun t k => XS.iload X40.here hx rfl (hb hby at_254) rfl k) ?_
        by_cases hc256_45 : z14_0 = (0 : Int32)
        · -- yes
          refine own_via (S' := T40.setTop (mkF m 283 #[.val (.int p0), .val (.int p1), .val (.int p2), .val (.int p3), .val (.int p4), .val (.int p5), .val (.int kk), .val (.ref d), .val (.ref sc), .val (.ref ms), .val (.ref b1), .val (.int dp), .val (.int z14_0), .val (.ref b1), .val (.ref b1), .unset] [])) (fun t k => XS.ifYes X40.here hx rfl (pc0 := 256) (pc' := 283) rfl (hb hby at_256) rfl ((if0 _ _).trans (teq hc256_45).1) (by decide) (by decide) k) ?_
          refine own_via (S' := T40.setTop (mkF m 285 #[.val (.int p0), .val (.int p1), .val (.int p2), .val (.int p3), .val (.int p4), .val (.int p5), .val (.int kk), .val (.ref d), .val (.ref sc), .val (.ref ms), .val (.ref b1), .val (.int dp), .val (.int z14_0), .val (.ref b1), .val (.ref b1), .unset] [(.ref b1)])) (fun t k => XS.aload X40.here hx rfl (hb hby at_283) rfl rfl k) ?_
          have cx47 : Fld Z T34.heap b1 "com/example/object_access_rules/objectaccessrules/Result" "below" "Lcom/example/object_access_rules/objectaccessrules/Result;" .null := (f5_4.keep K34q nin0)
          obtain ⟨cq46, kq46, q46a, q46b, q46c⟩ := isOf hZ e40 cx42
          obtain ⟨_, _, ⟨T46, Lp46, kp46, np46⟩, -, X46, ⟨Lc46, hQ46, l46, y46, z46⟩, st46⟩ := X40.virtualBack hx (y := mt10) (z := mt10) hown (mvT hZ (wd84 hw)) (mvT hZ (wd85 hw)) (notFace_of_selects (args := #[]) (mvT hZ (wd87 hw))) (mvT hZ (wd87 hw)) (mvT hZ (wd86 hw)) (by decide) (backOf (W := 0) (own_og0 l Z a0 hw [] b1 T34.heap n0 O37 cx47) hZ (wd88 hw) (wd18 hw) (by decide) (by decide)) q46a q46c (g := (mkF m 285 #[.val (.int p0), .val (.int p1), .val (.int p2), .val (.int p3), .val (.int p4), .val (.int p5), .val (.int kk), .val (.ref d), .val (.ref sc), .val (.ref ms), .val (.ref b1), .val (.int dp), .val (.int z14_0), .val (.ref b1), .val (.ref b1), .unset] [(.ref b1)])) rfl (by rw [hml]; rfl) (Steps.refl _) (argsL := []) (rest := []) (lenOf pd___Lcom_example_object_access_rules_objectaccessrules_Result__5924 rfl) rfl (by show 2 * 0 + _ ≤ _; exact Nat.le_of_eq rfl) (hb hby at_285) (fun _ _ => ⟨rfl, e40, (by decide : 13 + 0 ≤ _), (by decide : 130 + 0 ≤ _)⟩)
          dsimp only [Pt.U, Pt.locs, Pt.cells, Pt.slots] at X46 l46 y46 z46 st46 hQ46
          subst Lp46 kp46 np46
          obtain ⟨rfl, rfl, e46⟩ := hQ46
          try rw [List.append_nil] at X46
          refine own_tr (S' := T46.setTop (mkF m 288 #[.val (.int p0), .val (.int p1), .val (.int p2), .val (.int p3), .val (.int p4), .val (.int p5), .val (.int kk), .val (.ref d), .val (.ref sc), .val (.ref ms), .val (.ref b1), .val (.int dp), .val (.int z14_0), .val (.ref b1), .val (.ref b1), .unset] [(.ref b1)])) st46 ?_
          refine own_via (S' := T46.setTop (mkF m 290 #[.val (.int p0), .val (.int p1), .val (.int p2), .val (.int p3), .val (.int p4), .val (.int p5), .val (.int kk), .val (.ref d), .val (.ref sc), .val (.ref ms), .val (.ref b1), .val (.int dp), .val (.int z14_0), .val (.ref b1), .val (.ref b1), .val (.ref b1)] [])) (fun t k => XS.astore X46.here hx rfl (hb hby at_288) rfl rfl (l' := #[.val (.int p0), .val (.int p1), .val (.int p2), .val (.int p3), .val (.int p4), .val (.int p5), .val (.int kk), .val (.ref d), .val (.ref sc), .val (.ref ms), .val (.ref b1), .val (.int dp), .val (.int z14_0), .val (.ref b1), .val (.ref b1), .val (.ref b1)]) rfl k) ?_
          refine own_via (S' := T46.setTop (mkF m 292 #[.val (.int p0), .val (.int p1), .val (.int p2), .val (.int p3), .val (.int p4), .val (.int p5), .val (.int kk), .val (.ref d), .val (.ref sc), .val (.ref ms), .val (.ref b1), .val (.int dp), .val (.int z14_0), .val (.ref b1), .val (.ref b1), .val (.ref b1)] [(.ref b1)])) (fun t k => XS.aload X46.here hx rfl (hb hby at_290) rfl rfl k) ?_
          refine own_via (S' := T46.setTop (mkF m 294 #[.val (.int p0), .val (.int p1), .val (.int p2), .val (.int p3), .val (.int p4), .val (.int p5), .val (.int kk), .val (.ref d), .val (.ref sc), .val (.ref ms), .val (.ref b1), .val (.int dp), .val (.int z14_0), .val (.ref b1), .val (.ref b1), .val (.ref b1)] [(.ref b1), (.ref b1)])) (fun t k => XS.aload X46.here hx rfl (hb hby at_292) rfl rfl k) ?_
          refine own_via (S' := T46.setTop (mkF m 297 #[.val (.int p0), .val (.int p1), .val (.int p2), .val (.int p3), .val (.int p4), .val (.int p5), .val (.int kk), .val (.ref d), .val (.ref sc), .val (.ref ms), .val (.ref b1), .val (.int dp), .val (.int z14_0), .val (.ref b1), .val (.ref b1), .val (.ref b1)] [])) (fun t k => Jvm.RoadKit.acmp (g := (mkF m 294 #[.val (.int p0), .val (.int p1), .val (.int p2), .val (.int p3), .val (.int p4), .val (.int p5), .val (.int kk), .val (.ref d), .val (.ref sc), .val (.ref ms), .val (.ref b1), .val (.int dp), .val (.int z14_0), .val (.ref b1), .val (.ref b1), .val (.ref b1)] [(.ref b1), (.ref b1)])) X46 hx rfl rfl rfl (pc0 := 294) (pc' := 297) (same := true) rfl (hb hby at_294) rfl (decide_eq_true rfl) (by decide) (by decide) k) ?_
          refine own_via (S' := T46.setTop (mkF m 299 #[.val (.int p0), .val (.int p1), .val (.int p2), .val (.int p3), .val (.int p4), .val (.int p5), .val (.int kk), .val (.ref d), .val (.ref sc), .val (.ref ms), .val (.ref b1), .val (.int dp), .val (.int z14_0), .val (.ref b1), .val (.ref b1), .val (.ref b1)] [(.ref b1)])) (fun t k => XS.aload X46.here hx rfl (hb hby at_297) rfl rfl k) ?_
          obtain ⟨cq48, kq48, q48a, q48b, q48c⟩ := isOf hZ e46 cx42
          obtain ⟨_, _, ⟨T48, Lp48, kp48, np48⟩, -, X48, ⟨Lc48, hQ48, l48, y48, z48⟩, st48⟩ := X46.virtualBack hx (y := mt10) (z := mt10) hown (mvT hZ (wd84 hw)) (mvT hZ (wd85 hw)) (notFace_of_selects (args := #[]) (mvT hZ (wd87 hw))) (mvT hZ (wd87 hw)) (mvT hZ (wd86 hw)) (by decide) (backOf (W := 0) (own_og0 l Z a0 hw [] b1 T34.heap n0 O37 cx47) hZ (wd88 hw) (wd18 hw) (by decide) (by decide)) q48a q48c (g := (mkF m 299 #[.val (.int p0), .val (.int p1), .val (.int p2), .val (.int p3), .val (.int p4), .val (.int p5), .val (.int kk), .val (.ref d), .val (.ref sc), .val (.ref ms), .val (.ref b1), .val (.int dp), .val (.int z14_0), .val (.ref b1), .val (.ref b1), .val (.ref b1)] [(.ref b1)])) rfl (by rw [hml]; rfl) (Steps.refl _) (argsL := []) (rest := []) (lenOf pd___Lcom_example_object_access_rules_objectaccessrules_Result__5924 rfl) rfl (by show 2 * 0 + _ ≤ _; exact Nat.le_of_eq rfl) (hb hby at_299) (fun _ _ => ⟨rfl, e46, (by decide : 13 + 0 ≤ _), (by decide : 130 + 0 ≤ _)⟩)
          dsimp only [Pt.U, Pt.locs, Pt.cells, Pt.slots] at X48 l48 y48 z48 st48 hQ48
          subst Lp48 kp48 np48
          obtain ⟨rfl, rfl, e48⟩ := hQ48
          try rw [List.append_nil] at X48
          refine own_tr (S' := T48.setTop (mkF m 302 #[.val (.int p0), .val (.int p1), .val (.int p2), .val (.int p3), .val (.int p4), .val (.int p5), .val (.int kk), .val (.ref d), .val (.ref sc), .val (.ref ms), .val (.ref b1), .val (.int dp), .val (.int z14_0), .val (.ref b1), .val (.ref b1), .val (.ref b1)] [(.ref b1)])) st48 ?_
          refine own_via (S' := T48.setTop (mkF m 304 #[.val (.int p0), .val (.int p1), .val (.int p2), .val (.int p3), .val (.int p4), .val (.int p5), .val (.int kk), .val (.ref d), .val (.ref sc), .val (.ref ms), .val (.ref b1), .val (.int dp), .val (.int z14_0), .val (.ref b1), .val (.ref b1), .val (.ref b1)] [(.ref b1), (.ref b1)])) (fun t k => XS.aload X48.here hx rfl (hb hby at_302) rfl rfl k) ?_
          refine own_via (S' := T48.setTop (mkF m 307 #[.val (.int p0), .val (.int p1), .val (.int p2), .val (.int p3), .val (.int p4), .val (.int p5), .val (.int kk), .val (.ref d), .val (.ref sc), .val (.ref ms), .val (.ref b1), .val (.int dp), .val (.int z14_0), .val (.ref b1), .val (.ref b1), .val (.ref b1)] [])) (fun t k => Jvm.RoadKit.acmp (g := (mkF m 304 #[.val (.int p0), .val (.int p1), .val (.int p2), .val (.int p3), .val (.int p4), .val (.int p5), .val (.int kk), .val (.ref d), .val (.ref sc), .val (.ref ms), .val (.ref b1), .val (.int dp), .val (.int z14_0), .val (.ref b1), .val (.ref b1), .val (.ref b1)] [(.ref b1), (.ref b1)])) X48 hx rfl rfl rfl (pc0 := 304) (pc' := 307) (same := true) rfl (hb hby at_304) rfl (decide_eq_true rfl) (by decide) (by decide) k) ?_
          refine own_via (S' := T48.setTop (mkF m 308 #[.val (.int p0), .val (.int p1), .val (.int p2), .val (.int p3), .val (.int p4), .val (.int p5), .val (.int kk), .val (.ref d), .val (.ref sc), .val (.ref ms), .val (.ref b1), .val (.int dp), .val (.int z14_0), .val (.ref b1), .val (.ref b1), .val (.ref b1)] [(.int (1 : Int32))])) (fun t k => XS.iconst X48.here hx rfl (hb hby at_307) k) ?_
          refine own_via (S' := T48.setTop (mkF m 312 #[.val (.int p0), .val (.int p1), .val (.int p2), .val (.int p3), .val (.int p4), .val (.int p5), .val (.int kk), .val (.ref d), .val (.ref sc), .val (.ref ms), .val (.ref b1), .val (.int dp), .val (.int z14_0), .val (.ref b1), .val (.ref b1), .val (.ref b1)] [(.int (1 : Int32))])) (fun t k => XS.goto X48.here hx rfl (pc0 := 308) (pc' := 312) rfl (hb hby at_308) (by decide) (by decide) k) ?_
          have RTR36 : CHr Z own_EL s.vm h0 T48.vm T34.heap := R36.trans (CHv.at X48 hZ hEL R36.1)
          have RXR36 : CHr Z own_EL s.vm s.heap T48.vm T48.heap := by rw [hh, e48]; exact RTR36
          refine own_retW (Q := Q_own_law Z p0 p1 p2 p3 p4 p5 zc wP wD wN wI wO wM wG wY h0 n0) (C := room_1.cells) (N := room_1.slots) X48 hSn5 (by rw [e48]; omega) (v := some (.int (1 : Int32))) (fun h => by rw [hret] at h; cases h) hsync ?_ RXR36 (by decide) (by decide) (fun fs hr => retN X48 hx (t := .boolean) hret (by simp) (hb hby at_312) hr)
          show Q_own_law Z p0 p1 p2 p3 p4 p5 zc wP wD wN wI wO wM wG wY h0 n0 _ T48.vm T48.heap _
          rw [e48]
          exact ⟨rfl, N34⟩
        · -- no
          refine own_via (S' := T40.setTop (mkF m 259 #[.val (.int p0), .val (.int p1), .val (.int p2), .val (.int p3), .val (.int p4), .val (.int p5), .val (.int kk), .val (.ref d), .val (.ref sc), .val (.ref ms), .val (.ref b1), .val (.int dp), .val (.int z14_0), .val (.ref b1), .val (.ref b1), .unset] [])) (fun t k => XS.ifNo X40.here hx rfl (hb hby at_256) rfl ((if0 _ _).trans (feq hc256_45).1) k) ?_
          refine own_via (S' := T40.setTop (mkF m 261 #[.val (.int p0), .val (.int p1), .val (.int p2), .val (.int p3), .val (.int p4), .val (.int p5), .val (.int kk), .val (.ref d), .val (.ref sc), .val (.ref ms), .val (.ref b1), .val (.int dp), .val (.int z14_0), .val (.ref b1), .val (.ref b1), .unset] [(.ref b1)])) (fun t k => XS.aload X40.here hx rfl (hb hby at_259) rfl rfl k) ?_
          have cx50 : Fld Z T34.heap b1 "com/example/object_access_rules/objectaccessrules/Result" "step" "Ljava/lang/String;" .null := (f5_3.keep K34q nin0)
          have cx51 : Fld Z T34.heap b1 "com/example/object_access_rules/objectaccessrules/Result" "below" "Lcom/example/object_access_rules/objectaccessrules/Result;" .null := (f5_4.keep K34q nin0)
          have hk49 : T5.heap.size ≤ T40.heap.size := by rw [e40]; omega
          obtain ⟨cq49, kq49, q49a, q49b, q49c⟩ := isOf hZ e40 cx42
          obtain ⟨_, _, ⟨T49, Lp49, kp49, np49⟩, -, X49, hS49, hgr49, ⟨Lc49, ⟨hQ49, R49q⟩, l49, y49, z49⟩, st49⟩ := X40.virtualBackS hx (y := mt9) (z := mt9) hown (mvT hZ (wd89 hw)) (mvT hZ (wd90 hw)) (notFace_of_selects (args := #[]) (mvT hZ (wd92 hw))) (mvT hZ (wd92 hw)) (mvT hZ (wd91 hw)) (by decide) (own_backW (SL := []) (W := 0) (own_adN l Z a0 hw [] b1 wI wO wD T34.heap n0 O37 zf_S_com_example_object_access_rules_objectaccessrules_Decision_INDETERMINATE zf_S_com_example_object_access_rules_objectaccessrules_StatusCode_OK zf_S_com_example_object_access_rules_objectaccessrules_Decision_DENY zf_E_wD zf_E_wO cx50 cx51 hD.2.2.2.2.1) hZ (wd93 hw) (wd18 hw) (by decide) (by decide) hEL R36.1 all0) q49a q49c (g := (mkF m 261 #[.val (.int p0), .val (.int p1), .val (.int p2), .val (.int p3), .val (.int p4), .val (.int p5), .val (.int kk), .val (.ref d), .val (.ref sc), .val (.ref ms), .val (.ref b1), .val (.int dp), .val (.int z14_0), .val (.ref b1), .val (.ref b1), .unset] [(.ref b1)])) rfl (by rw [hml]; rfl) (Steps.refl _) (argsL := []) (rest := []) (lenOf pd___Lcom_example_object_access_rules_objectaccessrules_Result__5924 rfl) rfl (by show 2 * 0 + _ ≤ _; exact Nat.le_of_eq rfl) (hb hby at_261) (fun _ _ => ⟨rfl, e40, (by decide : 13 + 9 ≤ _), (by decide : 130 + 105 ≤ _)⟩)
          dsimp only [Pt.U, Pt.locs, Pt.cells, Pt.slots] at X49 l49 y49 z49 st49 hQ49 hS49 hgr49 R49q
          subst Lp49 kp49 np49
          obtain ⟨X49, hSn49, hZ, hown⟩ := rebS hSn5 hk49 X49 hS49 hgr49 hZ hown
          obtain ⟨b49, rfl, N49q, K49q, f49_0, f49_1, f49_2⟩ := hQ49
          have N49 := Fr.app N34 N49q
          have sz52 : T34.heap.size ≤ T49.heap.size := K49q.1
          have R53 : CHr Z own_EL s.vm h0 T49.vm T49.heap := R36.trans R49q
          have O54 : Old Z n0 T49.heap := O37.keep K49q all0
          have lt55_b49 : T49.heap.size > b49 := f49_0.lt
          have lt56_b49 : T49.heap.size > b49 := f49_1.lt
          have lt57_b49 : T49.heap.size > b49 := f49_2.lt
          refine own_tr (S' := T49.setTop (mkF m 264 #[.val (.int p0), .val (.int p1), .val (.int p2), .val (.int p3), .val (.int p4), .val (.int p5), .val (.int kk), .val (.ref d), .val (.ref sc), .val (.ref ms), .val (.ref b1), .val (.int dp), .val (.int z14_0), .val (.ref b1), .val (.ref b1), .unset] [(.ref b49)])) st49 ?_
          refine own_via (S' := T49.setTop (mkF m 266 #[.val (.int p0), .val (.int p1), .val (.int p2), .val (.int p3), .val (.int p4), .val (.int p5), .val (.int kk), .val (.ref d), .val (.ref sc), .val (.ref ms), .val (.ref b1), .val (.int dp), .val (.int z14_0), .val (.ref b49), .val (.ref b1), .unset] [])) (fun t k => XS.astore X49.here hx rfl (hb hby at_264) rfl rfl (l' := #[.val (.int p0), .val (.int p1), .val (.int p2), .val (.int p3), .val (.int p4), .val (.int p5), .val (.int kk), .val (.ref d), .val (.ref sc), .val (.ref ms), .val (.ref b1), .val (.int dp), .val (.int z14_0), .val (.ref b49), .val (.ref b1), .unset]) rfl k) ?_
          refine own_via (S' := T49.setTop (mkF m 268 #[.val (.int p0), .val (.int p1), .val (.int p2), .val (.int p3), .val (.int p4), .val (.int p5), .val (.int kk), .val (.ref d), .val (.ref sc), .val (.ref ms), .val (.ref b1), .val (.int dp), .val (.int z14_0), .val (.ref b49), .val (.ref b1), .unset] [(.int dp)])) (fun t k => XS.iload X49.here hx rfl (hb hby at_266) rfl k) ?_
          have hc268_58 : ¬ (dp = (0 : Int32)) := fun q => hc185_16 (by rw [q]; decide)
          refine own_via (S' := T49.setTop (mkF m 271 #[.val (.int p0), .val (.int p1), .val (.int p2), .val (.int p3), .val (.int p4), .val (.int p5), .val (.int kk), .val (.ref d), .val (.ref sc), .val (.ref ms), .val (.ref b1), .val (.int dp), .val (.int z14_0), .val (.ref b49), .val (.ref b1), .unset] [])) (fun t k => XS.ifNo X49.here hx rfl (hb hby at_268) rfl ((if0 _ _).trans (feq hc268_58).1) k) ?_
          refine own_via (S' := T49.setTop (mkF m 273 #[.val (.int p0), .val (.int p1), .val (.int p2), .val (.int p3), .val (.int p4), .val (.int p5), .val (.int kk), .val (.ref d), .val (.ref sc), .val (.ref ms), .val (.ref b1), .val (.int dp), .val (.int z14_0), .val (.ref b49), .val (.ref b1), .unset] [(.ref d)])) (fun t k => XS.aload X49.here hx rfl (hb hby at_271) rfl rfl k) ?_
          have cx59 : Sta Z T49.heap "com/example/object_access_rules/objectaccessrules/Decision" "NOT_APPLICABLE" "Lcom/example/object_access_rules/objectaccessrules/Decision;" (.ref wN) := zf_S_com_example_object_access_rules_objectaccessrules_Decision_NOT_APPLICABLE.ext O54.2
          obtain ⟨T60, X60, e60, st60⟩ := getS2 X49 hx hZ hown (host := "") (Or.inl (wd97 hw)) Via.refl rfl cx59 (g := (mkF m 273 #[.val (.int p0), .val (.int p1), .val (.int p2), .val (.int p3), .val (.int p4), .val (.int p5), .val (.int kk), .val (.ref d), .val (.ref sc), .val (.ref ms), .val (.ref b1), .val (.int dp), .val (.int z14_0), .val (.ref b49), .val (.ref b1), .unset] [(.ref d)])) rfl (hb hby at_273)
          refine own_via (S' := T60.setTop (mkF m 276 #[.val (.int p0), .val (.int p1), .val (.int p2), .val (.int p3), .val (.int p4), .val (.int p5), .val (.int kk), .val (.ref d), .val (.ref sc), .val (.ref ms), .val (.ref b1), .val (.int dp), .val (.int z14_0), .val (.ref b49), .val (.ref b1), .unset] [(.ref wN), (.ref d)])) st60 ?_
          refine own_via (S' := T60.setTop (mkF m 279 #[.val (.int p0), .val (.int p1), .val (.int p2), .val (.int p3), .val (.int p4), .val (.int p5), .val (.int kk), .val (.ref d), .val (.ref sc), .val (.ref ms), .val (.ref b1), .val (.int dp), .val (.int z14_0), .val (.ref b49), .val (.ref b1), .unset] [])) (fun t k => Jvm.RoadKit.acmp (g := (mkF m 276 #[.val (.int p0), .val (.int p1), .val (.int p2), .val (.int p3), .val (.int p4), .val (.int p5), .val (.int kk), .val (.ref d), .val (.ref sc), .val (.ref ms), .val (.ref b1), .val (.int dp), .val (.int z14_0), .val (.ref b49), .val (.ref b1), .unset] [(.ref wN), (.ref d)])) X60 hx rfl rfl rfl (pc0 := 276) (pc' := 279) (same := true) rfl (hb hby at_276) rfl (decide_eq_true (congrArg Value.ref hs199_39)) (by decide) (by decide) k) ?_
          refine own_via (S' := T60.setTop (mkF m 281 #[.val (.int p0), .val (.int p1), .val (.int p2), .val (.int p3), .val (.int p4), .val (.int p5), .val (.int kk), .val (.ref d), .val (.ref sc), .val (.ref ms), .val (.ref b1), .val (.int dp), .val (.int z14_0), .val (.ref b49), .val (.ref b1), .unset] [(.ref b49)])) (fun t k => XS.aload X60.here hx rfl (hb hby at_279) rfl rfl k) ?_
          refine own_via (S' := T60.setTop (mkF m 283 #[.val (.int p0), .val (.int p1), .val (.int p2), .val (.int p3), .val (.int p4), .val (.int p5), .val (.int kk), .val (.ref d), .val (.ref sc), .val (.ref ms), .val (.ref b1), .val (.int dp), .val (.int z14_0), .val (.ref b49), .val (.ref b49), .unset] [])) (fun t k => XS.astore X60.here hx rfl (hb hby at_281) rfl rfl (l' := #[.val (.int p0), .val (.int p1), .val (.int p2), .val (.int p3), .val (.int p4), .val (.int p5), .val (.int kk), .val (.ref d), .val (.ref sc), .val (.ref ms), .val (.ref b1), .val (.int dp), .val (.int z14_0), .val (.ref b49), .val (.ref b49), .unset]) rfl k) ?_
          refine own_via (S' := T60.setTop (mkF m 285 #[.val (.int p0), .val (.int p1), .val (.int p2), .val (.int p3), .val (.int p4), .val (.int p5), .val (.int kk), .val (.ref d), .val (.ref sc), .val (.ref ms), .val (.ref b1), .val (.int dp), .val (.int z14_0), .val (.ref b49), .val (.ref b49), .unset] [(.ref b49)])) (fun t k => XS.aload X60.here hx rfl (hb hby at_283) rfl rfl k) ?_
          obtain ⟨cq61, kq61, q61a, q61b, q61c⟩ := isOf hZ e60 f49_0
          obtain ⟨_, _, ⟨T61, Lp61, kp61, np61⟩, -, X61, ⟨Lc61, hQ61, l61, y61, z61⟩, st61⟩ := X60.virtualBack hx (y := mt10) (z := mt10) hown (mvT hZ (wd84 hw)) (mvT hZ (wd85 hw)) (notFace_of_selects (args := #[]) (mvT hZ (wd87 hw))) (mvT hZ (wd87 hw)) (mvT hZ (wd86 hw)) (by decide) (backOf (W := 0) (own_og0 l Z a0 hw [] b49 T49.heap n0 O54 f49_2) hZ (wd88 hw) (wd18 hw) (by decide) (by decide)) q61a q61c (g := (mkF m 285 #[.val (.int p0), .val (.int p1), .val (.int p2), .val (.int p3), .val (.int p4), .val (.int p5), .val (.int kk), .val (.ref d), .val (.ref sc), .val (.ref ms), .val (.ref b1), .val (.int dp), .val (.int z14_0), .val (.ref b49), .val (.ref b49), .unset] [(.ref b49)])) rfl (by rw [hml]; rfl) (Steps.refl _) (argsL := []) (rest := []) (lenOf pd___Lcom_example_object_access_rules_objectaccessrules_Result__5924 rfl) rfl (by show 2 * 0 + _ ≤ _; exact Nat.le_of_eq rfl) (hb hby at_285) (fun _ _ => ⟨rfl, e60, (by decide : 22 + 0 ≤ _), (by decide : 235 + 0 ≤ _)⟩)
          dsimp only [Pt.U, Pt.locs, Pt.cells, Pt.slots] at X61 l61 y61 z61 st61 hQ61
          subst Lp61 kp61 np61
          obtain ⟨rfl, rfl, e61⟩ := hQ61
          try rw [List.append_nil] at X61
          refine own_tr (S' := T61.setTop (mkF m 288 #[.val (.int p0), .val (.int p1), .val (.int p2), .val (.int p3), .val (.int p4), .val (.int p5), .val (.int kk), .val (.ref d), .val (.ref sc), .val (.ref ms), .val (.ref b1), .val (.int dp), .val (.int z14_0), .val (.ref b49), .val (.ref b49), .unset] [(.ref b49)])) st61 ?_
          refine own_via (S' := T61.setTop (mkF m 290 #[.val (.int p0), .val (.int p1), .val (.int p2), .val (.int p3), .val (.int p4), .val (.int p5), .val (.int kk), .val (.ref d), .val (.ref sc), .val (.ref ms), .val (.ref b1), .val (.int dp), .val (.int z14_0), .val (.ref b49), .val (.ref b49), .val (.ref b49)] [])) (fun t k => XS.astore X61.here hx rfl (hb hby at_288) rfl rfl (l' := #[.val (.int p0), .val (.int p1), .val (.int p2), .val (.int p3), .val (.int p4), .val (.int p5), .val (.int kk), .val (.ref d), .val (.ref sc), .val (.ref ms), .val (.ref b1), .val (.int dp), .val (.int z14_0), .val (.ref b49), .val (.ref b49), .val (.ref b49)]) rfl k) ?_
          refine own_via (S' := T61.setTop (mkF m 292 #[.val (.int p0), .val (.int p1), .val (.int p2), .val (.int p3), .val (.int p4), .val (.int p5), .val (.int kk), .val (.ref d), .val (.ref sc), .val (.ref ms), .val (.ref b1), .val (.int dp), .val (.int z14_0), .val (.ref b49), .val (.ref b49), .val (.ref b49)] [(.ref b49)])) (fun t k => XS.aload X61.here hx rfl (hb hby at_290) rfl rfl k) ?_
          refine own_via (S' := T61.setTop (mkF m 294 #[.val (.int p0), .val (.int p1), .val (.int p2), .val (.int p3), .val (.int p4), .val (.int p5), .val (.int kk), .val (.ref d), .val (.ref sc), .val (.ref ms), .val (.ref b1), .val (.int dp), .val (.int z14_0), .val (.ref b49), .val (.ref b49), .val (.ref b49)] [(.ref b49), (.ref b49)])) (fun t k => XS.aload X61.here hx rfl (hb hby at_292) rfl rfl k) ?_
          refine own_via (S' := T61.setTop (mkF m 297 #[.val (.int p0), .val (.int p1), .val (.int p2), .val (.int p3), .val (.int p4), .val (.int p5), .val (.int kk), .val (.ref d), .val (.ref sc), .val (.ref ms), .val (.ref b1), .val (.int dp), .val (.int z14_0), .val (.ref b49), .val (.ref b49), .val (.ref b49)] [])) (fun t k => Jvm.RoadKit.acmp (g := (mkF m 294 #[.val (.int p0), .val (.int p1), .val (.int p2), .val (.int p3), .val (.int p4), .val (.int p5), .val (.int kk), .val (.ref d), .val (.ref sc), .val (.ref ms), .val (.ref b1), .val (.int dp), .val (.int z14_0), .val (.ref b49), .val (.ref b49), .val (.ref b49)] [(.ref b49), (.ref b49)])) X61 hx rfl rfl rfl (pc0 := 294) (pc' := 297) (same := true) rfl (hb hby at_294) rfl (decide_eq_true rfl) (by decide) (by decide) k) ?_
          refine own_via (S' := T61.setTop (mkF m 299 #[.val (.int p0), .val (.int p1), .val (.int p2), .val (.int p3), .val (.int p4), .val (.int p5), .val (.int kk), .val (.ref d), .val (.ref sc), .val (.ref ms), .val (.ref b1), .val (.int dp), .val (.int z14_0), .val (.ref b49), .val (.ref b49), .val (.ref b49)] [(.ref b49)])) (fun t k => XS.aload X61.here hx rfl (hb hby at_297) rfl rfl k) ?_
          obtain ⟨cq62, kq62, q62a, q62b, q62c⟩ := isOf hZ e61 f49_0
          obtain ⟨_, _, ⟨T62, Lp62, kp62, np62⟩, -, X62, ⟨Lc62, hQ62, l62, y62, z62⟩, st62⟩ := X61.virtualBack hx (y := mt10) (z := mt10) hown (mvT hZ (wd84 hw)) (mvT hZ (wd85 hw)) (notFace_of_selects (args := #[]) (mvT hZ (wd87 hw))) (mvT hZ (wd87 hw)) (mvT hZ (wd86 hw)) (by decide) (backOf (W := 0) (own_og0 l Z a0 hw [] b49 T49.heap n0 O54 f49_2) hZ (wd88 hw) (wd18 hw) (by decide) (by decide)) q62a q62c (g := (mkF m 299 #[.val (.int p0), .val (.int p1), .val (.int p2), .val (.int p3), .val (.int p4), .val (.int p5), .val (.int kk), .val (.ref d), .val (.ref sc), .val (.ref ms), .val (.ref b1), .val (.int dp), .val (.int z14_0), .val (.ref b49), .val (.ref b49), .val (.ref b49)] [(.ref b49)])) rfl (by rw [hml]; rfl) (Steps.refl _) (argsL := []) (rest := []) (lenOf pd___Lcom_example_object_access_rules_objectaccessrules_Result__5924 rfl) rfl (by show 2 * 0 + _ ≤ _; exact Nat.le_of_eq rfl) (hb hby at_299) (fun _ _ => ⟨rfl, e61, (by decide : 22 + 0 ≤ _), (by decide : 235 + 0 ≤ _)⟩)
          dsimp only [Pt.U, Pt.locs, Pt.cells, Pt.slots] at X62 l62 y62 z62 st62 hQ62
          subst Lp62 kp62 np62
          obtain ⟨rfl, rfl, e62⟩ := hQ62
          try rw [List.append_nil] at X62
          refine own_tr (S' := T62.setTop (mkF m 302 #[.val (.int p0), .val (.int p1), .val (.int p2), .val (.int p3), .val (.int p4), .val (.int p5), .val (.int kk), .val (.ref d), .val (.ref sc), .val (.ref ms), .val (.ref b1), .val (.int dp), .val (.int z14_0), .val (.ref b49), .val (.ref b49), .val (.ref b49)] [(.ref b49)])) st62 ?_
          refine own_via (S' := T62.setTop (mkF m 304 #[.val (.int p0), .val (.int p1), .val (.int p2), .val (.int p3), .val (.int p4), .val (.int p5), .val (.int kk), .val (.ref d), .val (.ref sc), .val (.ref ms), .val (.ref b1), .val (.int dp), .val (.int z14_0), .val (.ref b49), .val (.ref b49), .val (.ref b49)] [(.ref b49), (.ref b49)])) (fun t k => XS.aload X62.here hx rfl (hb hby at_302) rfl rfl k) ?_
          refine own_via (S' := T62.setTop (mkF m 307 #[.val (.int p0), .val (.int p1), .val (.int p2), .val (.int p3), .val (.int p4), .val (.int p5), .val (.int kk), .val (.ref d), .val (.ref sc), .val (.ref ms), .val (.ref b1), .val (.int dp), .val (.int z14_0), .val (.ref b49), .val (.ref b49), .val (.ref b49)] [])) (fun t k => Jvm.RoadKit.acmp (g := (mkF m 304 #[.val (.int p0), .val (.int p1), .val (.int p2), .val (.int p3), .val (.int p4), .val (.int p5), .val (.int kk), .val (.ref d), .val (.ref sc), .val (.ref ms), .val (.ref b1), .val (.int dp), .val (.int z14_0), .val (.ref b49), .val (.ref b49), .val (.ref b49)] [(.ref b49), (.ref b49)])) X62 hx rfl rfl rfl (pc0 := 304) (pc' := 307) (same := true) rfl (hb hby at_304) rfl (decide_eq_true rfl) (by decide) (by decide) k) ?_
          refine own_via (S' := T62.setTop (mkF m 308 #[.val (.int p0), .val (.int p1), .val (.int p2), .val (.int p3), .val (.int p4), .val (.int p5), .val (.int kk), .val (.ref d), .val (.ref sc), .val (.ref ms), .val (.ref b1), .val (.int dp), .val (.int z14_0), .val (.ref b49), .val (.ref b49), .val (.ref b49)] [(.int (1 : Int32))])) (fun t k => XS.iconst X62.here hx rfl (hb hby at_307) k) ?_
          refine own_via (S' := T62.setTop (mkF m 312 #[.val (.int p0), .val (.int p1), .val (.int p2), .val (.int p3), .val (.int p4), .val (.int p5), .val (.int kk), .val (.ref d), .val (.ref sc), .val (.ref ms), .val (.ref b1), .val (.int dp), .val (.int z14_0), .val (.ref b49), .val (.ref b49), .val (.ref b49)] [(.int (1 : Int32))])) (fun t k => XS.goto X62.here hx rfl (pc0 := 308) (pc' := 312) rfl (hb hby at_308) (by decide) (by decide) k) ?_
          have RTR53 : CHr Z own_EL s.vm h0 T62.vm T49.heap := R53.trans (CHv.at X62 hZ hEL R53.1)
          have RXR53 : CHr Z own_EL s.vm s.heap T62.vm T62.heap := by rw [hh, e62]; exact RTR53
          refine own_retW (Q := Q_own_law Z p0 p1 p2 p3 p4 p5 zc wP wD wN wI wO wM wG wY h0 n0) (C := room_1.cells) (N := room_1.slots) X62 hSn49 (by rw [e62]; omega) (v := some (.int (1 : Int32))) (fun h => by rw [hret] at h; cases h) hsync ?_ RXR53 (by decide) (by decide) (fun fs hr => retN X62 hx (t := .boolean) hret (by simp) (hb hby at_312) hr)
          show Q_own_law Z p0 p1 p2 p3 p4 p5 zc wP wD wN wI wO wM wG wY h0 n0 _ T62.vm T62.heap _
          rw [e62]
          exact ⟨rfl, N49⟩
      · -- no
        refine own_via (S' := T40.setTop (mkF m 210 #[.val (.int p0), .val (.int p1), .val (.int p2), .val (.int p3), .val (.int p4), .val (.int p5), .val (.int kk), .val (.ref d), .val (.ref sc), .val (.ref ms), .val (.ref b1), .val (.int dp), .val (.int z14_0), .val (.ref b1), .unset, .unset] [])) (fun t k => XS.icmpNo X40.here hx rfl (hb hby at_207) rfl (flt hc207_43).1 k) ?_
        refine own_via (S' := T40.setTop (mkF m 212 #[.val (.int p0), .val (.int p1), .val (.int p2), .val (.int p3), .val (.int p4), .val (.int p5), .val (.int kk), .val (.ref d), .val (.ref sc), .val (.ref ms), .val (.ref b1), .val (.int dp), .val (.int z14_0), .val (.ref b1), .unset, .unset] [(.ref b1)])) (fun t k => XS.aload X40.here hx rfl (hb hby at_210) rfl rfl k) ?_
        refine own_via (S' := T40.setTop (mkF m 214 #[.val (.int p0), .val (.int p1), .val (.int p2), .val (.int p3), .val (.int p4), .val (.int p5), .val (.int kk), .val (.ref d), .val (.ref sc), .val (.ref ms), .val (.ref b1), .val (.int dp), .val (.int z14_0), .val (.ref b1), .unset, .unset] [(.int p4), (.ref b1)])) (fun t k => XS.iload X40.here hx rfl (hb hby at_212) rfl k) ?_
        refine own_via (S' := T40.setTop (mkF m 217 #[.val (.int p0), .val (.int p1), .val (.int p2), .val (.int p3), .val (.int p4), .val (.int p5), .val (.int kk), .val (.ref d), .val (.ref sc), .val (.ref ms), .val (.ref b1), .val (.int dp), .val (.int z14_0), .val (.ref b1), .unset, .unset] [(.int (255 : Int32)), (.int p4), (.ref b1)])) (fun t k => XS.sipush X40.here hx rfl (hb hby at_214) k) ?_
        refine own_via (S' := T40.setTop (mkF m 218 #[.val (.int p0), .val (.int p1), .val (.int p2), .val (.int p3), .val (.int p4), .val (.int p5), .val (.int kk), .val (.ref d), .val (.ref sc), .val (.ref ms), .val (.ref b1), .val (.int dp), .val (.int z14_0), .val (.ref b1), .unset, .unset] [(.int (p4 &&& (255 : Int32))), (.ref b1)])) (fun t k => XS.iand X40.here hx rfl (hb hby at_217) rfl k) ?_
        refine own_via (S' := T40.setTop (mkF m 219 #[.val (.int p0), .val (.int p1), .val (.int p2), .val (.int p3), .val (.int p4), .val (.int p5), .val (.int kk), .val (.ref d), .val (.ref sc), .val (.ref ms), .val (.ref b1), .val (.int dp), .val (.int z14_0), .val (.ref b1), .unset, .unset] [(.int ((p4 &&& (255 : Int32)).toUInt32.toUInt16.toUInt32.toInt32)), (.ref b1)])) (fun t k => XS.i2c X40.here hx rfl (hb hby at_218) rfl k) ?_
        obtain ⟨ch2, hn_ch2⟩ : ∃ z : Int32, z = ((p4 &&& (255 : Int32)).toUInt32.toUInt16.toUInt32.toInt32) := ⟨_, rfl⟩
        rw [← hn_ch2]
        have rng_ch2 : ¬ ch2 < 0 ∧ ¬ (255 : Int32) < ch2 := by rw [hn_ch2]; exact own_and255 _
        obtain ⟨_, _, ⟨T63, Lp63, kp63, np63⟩, -, X63, ⟨Lc63, hQ63, l63, y63, z63⟩, st63⟩ := Jvm.LawKit.callS X40 hx (y := mt7) hown (mvT hZ (wd59 hw)) (mvT hZ (wd60 hw)) (mvT hZ (wd9 hw)) (mvT hZ (wd61 hw)) (by decide) (backOf (W := 1) (own_valueOf l Z a0 hw [] ch2 zc T34.heap n0 O37 zf_S_java_lang_String_COMPACT_STRINGS hzc rng_ch2) hZ (wd61 hw) (wd9 hw) (by decide) (by decide)) (g := (mkF m 219 #[.val (.int p0), .val (.int p1), .val (.int p2), .val (.int p3), .val (.int p4), .val (.int p5), .val (.int kk), .val (.ref d), .val (.ref sc), .val (.ref ms), .val (.ref b1), .val (.int dp), .val (.int z14_0), .val (.ref b1), .unset, .unset] [(.int ch2), (.ref b1)])) rfl (by rw [hml]; rfl) (argsL := [(.int ch2)]) (rest := [(.ref b1)]) (lenOf pd__C_Ljava_lang_String__1844 rfl) rfl (by show 2 * 0 + _ ≤ _; exact Nat.le_of_eq rfl) (hb hby at_219) (fun _ _ => ⟨rfl, e40, (by decide : 13 + 2 ≤ _), (by decide : 130 + 5 ≤ _)⟩)
        dsimp only [Pt.U, Pt.locs, Pt.cells, Pt.slots] at X63 l63 y63 z63 st63 hQ63
        subst Lp63 kp63 np63
        obtain ⟨b63, rfl, N63q, K63q, f63_0⟩ := hQ63
        have N63 := Fr.app N34 N63q
        have sf63 : ∀ x ∈ ([] : List Addr), Safe Z own_EL T5.vm T34.heap x := sf0
        have sz64 : T34.heap.size ≤ T63.heap.size := K63q.1
        have R65 : CHr Z own_EL s.vm h0 T5.vm T63.heap := R36.trans (CHr.keep K63q sf63 R36.1)
        have O66 : Old Z n0 T63.heap := O37.keep K63q all0
        have lt67_b63 : T63.heap.size > b63 := f63_0.lt
        refine own_via (S' := T63.setTop (mkF m 222 #[.val (.int p0), .val (.int p1), .val (.int p2), .val (.int p3), .val (.int p4), .val (.int p5), .val (.int kk), .val (.ref d), .val (.ref sc), .val (.ref ms), .val (.ref b1), .val (.int dp), .val (.int z14_0), .val (.ref b1), .unset, .unset] [(.ref b63), (.ref b1)])) st63 ?_
        have cx69 : Fld Z T63.heap b1 "com/example/object_access_rules/objectaccessrules/Result" "decision" "Lcom/example/object_access_rules/objectaccessrules/Decision;" (.ref d) := (cx41.keep K63q nin0)
        have cx70 : Exa Z T63.heap b1 "com/example/object_access_rules/objectaccessrules/Result" := (cx42.keep K63q)
        obtain ⟨cq68, kq68, q68a, q68b, q68c⟩ := isOf hZ rfl cx70
        obtain ⟨_, _, ⟨T68, Lp68, kp68, np68⟩, -, X68, ⟨Lc68, hQ68, l68, y68, z68⟩, st68⟩ := X63.virtualBack hx (y := mt8) (z := mt8) hown (mvT hZ (wd76 hw)) (mvT hZ (wd77 hw)) (notFace_of_selects (args := #[]) (mvT hZ (wd79 hw))) (mvT hZ (wd79 hw)) (mvT hZ (wd78 hw)) (by decide) (backOf (W := 0) (own_thrN l Z a0 hw [] b1 b63 d wN T63.heap n0 O66 zf_S_com_example_object_access_rules_objectaccessrules_Decision_NOT_APPLICABLE cx69 hs199_39) hZ (wd80 hw) (wd18 hw) (by decide) (by decide)) q68a q68c (g := (mkF m 222 #[.val (.int p0), .val (.int p1), .val (.int p2), .val (.int p3), .val (.int p4), .val (.int p5), .val (.int kk), .val (.ref d), .val (.ref sc), .val (.ref ms), .val (.ref b1), .val (.int dp), .val (.int z14_0), .val (.ref b1), .unset, .unset] [(.ref b63), (.ref b1)])) rfl (by rw [hml]; rfl) (Steps.refl _) (argsL := [(.ref b63)]) (rest := []) (lenOf pd__Ljava_lang_String__Lcom_example_object_access_rules_objectaccessrules_Result__7620 rfl) rfl (by show 2 * 0 + _ ≤ _; exact Nat.le_of_eq rfl) (hb hby at_222) (fun _ _ => ⟨rfl, rfl, (by decide : 15 + 0 ≤ _), (by decide : 135 + 0 ≤ _)⟩)
        dsimp only [Pt.U, Pt.locs, Pt.cells, Pt.slots] at X68 l68 y68 z68 st68 hQ68
        subst Lp68 kp68 np68
        obtain ⟨rfl, rfl, e68⟩ := hQ68
        try rw [List.append_nil] at X68
        refine own_tr (S' := T68.setTop (mkF m 225 #[.val (.int p0), .val (.int p1), .val (.int p2), .val (.int p3), .val (.int p4), .val (.int p5), .val (.int kk), .val (.ref d), .val (.ref sc), .val (.ref ms), .val (.ref b1), .val (.int dp), .val (.int z14_0), .val (.ref b1), .unset, .unset] [(.ref b1)])) st68 ?_
        refine own_via (S' := T68.setTop (mkF m 227 #[.val (.int p0), .val (.int p1), .val (.int p2), .val (.int p3), .val (.int p4), .val (.int p5), .val (.int kk), .val (.ref d), .val (.ref sc), .val (.ref ms), .val (.ref b1), .val (.int dp), .val (.int z14_0), .val (.ref b1), .unset, .unset] [])) (fun t k => XS.astore X68.here hx rfl (hb hby at_225) rfl rfl (l' := #[.val (.int p0), .val (.int p1), .val (.int p2), .val (.int p3), .val (.int p4), .val (.int p5), .val (.int kk), .val (.ref d), .val (.ref sc), .val (.ref ms), .val (.ref b1), .val (.int dp), .val (.int z14_0), .val (.ref b1), .unset, .unset]) rfl k) ?_
        refine own_via (S' := T68.setTop (mkF m 229 #[.val (.int p0), .val (.int p1), .val (.int p2), .val (.int p3), .val (.int p4), .val (.int p5), .val (.int kk), .val (.ref d), .val (.ref sc), .val (.ref ms), .val (.ref b1), .val (.int dp), .val (.int z14_0), .val (.ref b1), .unset, .unset] [(.int dp)])) (fun t k => XS.iload X68.here hx rfl (hb hby at_227) rfl k) ?_
        refine own_via (S' := T68.setTop (mkF m 230 #[.val (.int p0), .val (.int p1), .val (.int p2), .val (.int p3), .val (.int p4), .val (.int p5), .val (.int kk), .val (.ref d), .val (.ref sc), .val (.ref ms), .val (.ref b1), .val (.int dp), .val (.int z14_0), .val (.ref b1), .unset, .unset] [(.int (3 : Int32)), (.int dp)])) (fun t k => XS.iconst X68.here hx rfl (hb hby at_229) k) ?_
        by_cases hc230_71 : dp < (3 : Int32)
        · -- yes
          refine own_via (S' := T68.setTop (mkF m 250 #[.val (.int p0), .val (.int p1), .val (.int p2), .val (.int p3), .val (.int p4), .val (.int p5), .val (.int kk), .val (.ref d), .val (.ref sc), .val (.ref ms), .val (.ref b1), .val (.int dp), .val (.int z14_0), .val (.ref b1), .unset, .unset] [])) (fun t k => XS.icmpYes X68.here hx rfl (pc0 := 230) (pc' := 250) rfl (hb hby at_230) rfl (tlt hc230_71).1 (by decide) (by decide) k) ?_
          refine own_via (S' := T68.setTop (mkF m 252 #[.val (.int p0), .val (.int p1), .val (.int p2), .val (.int p3), .val (.int p4), .val (.int p5), .val (.int kk), .val (.ref d), .val (.ref sc), .val (.ref ms), .val (.ref b1), .val (.int dp), .val (.int z14_0), .val (.ref b1), .unset, .unset] [(.ref b1)])) (fun t k => XS.aload X68.here hx rfl (hb hby at_250) rfl rfl k) ?_
          refine own_via (S' := T68.setTop (mkF m 254 #[.val (.int p0), .val (.int p1), .val (.int p2), .val (.int p3), .val (.int p4), .val (.int p5), .val (.int kk), .val (.ref d), .val (.ref sc), .val (.ref ms), .val (.ref b1), .val (.int dp), .val (.int z14_0), .val (.ref b1), .val (.ref b1), .unset] [])) (fun t k => XS.astore X68.here hx rfl (hb hby at_252) rfl rfl (l' := #[.val (.int p0), .val (.int p1), .val (.int p2), .val (.int p3), .val (.int p4), .val (.int p5), .val (.int kk), .val (.ref d), .val (.ref sc), .val (.ref ms), .val (.ref b1), .val (.int dp), .val (.int z14_0), .val (.ref b1), .val (.ref b1), .unset]) rfl k) ?_
          refine own_via (S' := T68.setTop (mkF m 256 #[.val (.int p0), .val (.int p1), .val (.int p2), .val (.int p3), .val (.int p4), .val (.int p5), .val (.int kk), .val (.ref d), .val (.ref sc), .val (.ref ms), .val (.ref b1), .val (.int dp), .val (.int z14_0), .val (.ref b1), .val (.ref b1), .unset] [(.int z14_0)])) (fun t k => XS.iload X68.here hx rfl (hb hby at_254) rfl k) ?_
          by_cases hc256_72 : z14_0 = (0 : Int32)
          · -- yes
            refine own_via (S' := T68.setTop (mkF m 283 #[.val (.int p0), .val (.int p1), .val (.int p2), .val (.int p3), .val (.int p4), .val (.int p5), .val (.int kk), .val (.ref d), .val (.ref sc), .val (.ref ms), .val (.ref b1), .val (.int dp), .val (.int z14_0), .val (.ref b1), .val (.ref b1), .unset] [])) (fun t k => XS.ifYes X68.here hx rfl (pc0 := 256) (pc' := 283) rfl (hb hby at_256) rfl ((if0 _ _).trans (teq hc256_72).1) (by decide) (by decide) k) ?_
            refine own_via (S' := T68.setTop (mkF m 285 #[.val (.int p0), .val (.int p1), .val (.int p2), .val (.int p3), .val (.int p4), .val (.int p5), .val (.int kk), .val (.ref d), .val (.ref sc), .val (.ref ms), .val (.ref b1), .val (.int dp), .val (.int z14_0), .val (.ref b1), .val (.ref b1), .unset] [(.ref b1)])) (fun t k => XS.aload X68.here hx rfl (hb hby at_283) rfl rfl k) ?_
            have cx74 : Fld Z T63.heap b1 "com/example/object_access_rules/objectaccessrules/Result" "below" "Lcom/example/object_access_rules/objectaccessrules/Result;" .null := ((f5_4.keep K34q nin0).keep K63q nin0)
            obtain ⟨cq73, kq73, q73a, q73b, q73c⟩ := isOf hZ e68 cx70
            obtain ⟨_, _, ⟨T73, Lp73, kp73, np73⟩, -, X73, ⟨Lc73, hQ73, l73, y73, z73⟩, st73⟩ := X68.virtualBack hx (y := mt10) (z := mt10) hown (mvT hZ (wd84 hw)) (mvT hZ (wd85 hw)) (notFace_of_selects (args := #[]) (mvT hZ (wd87 hw))) (mvT hZ (wd87 hw)) (mvT hZ (wd86 hw)) (by decide) (backOf (W := 0) (own_og0 l Z a0 hw [] b1 T63.heap n0 O66 cx74) hZ (wd88 hw) (wd18 hw) (by decide) (by decide)) q73a q73c (g := (mkF m 285 #[.val (.int p0), .val (.int p1), .val (.int p2), .val (.int p3), .val (.int p4), .val (.int p5), .val (.int kk), .val (.ref d), .val (.ref sc), .val (.ref ms), .val (.ref b1), .val (.int dp), .val (.int z14_0), .val (.ref b1), .val (.ref b1), .unset] [(.ref b1)])) rfl (by rw [hml]; rfl) (Steps.refl _) (argsL := []) (rest := []) (lenOf pd___Lcom_example_object_access_rules_objectaccessrules_Result__5924 rfl) rfl (by show 2 * 0 + _ ≤ _; exact Nat.le_of_eq rfl) (hb hby at_285) (fun _ _ => ⟨rfl, e68, (by decide : 15 + 0 ≤ _), (by decide : 135 + 0 ≤ _)⟩)
            dsimp only [Pt.U, Pt.locs, Pt.cells, Pt.slots] at X73 l73 y73 z73 st73 hQ73
            subst Lp73 kp73 np73
            obtain ⟨rfl, rfl, e73⟩ := hQ73
            try rw [List.append_nil] at X73
            refine own_tr (S' := T73.setTop (mkF m 288 #[.val (.int p0), .val (.int p1), .val (.int p2), .val (.int p3), .val (.int p4), .val (.int p5), .val (.int kk), .val (.ref d), .val (.ref sc), .val (.ref ms), .val (.ref b1), .val (.int dp), .val (.int z14_0), .val (.ref b1), .val (.ref b1), .unset] [(.ref b1)])) st73 ?_
            refine own_via (S' := T73.setTop (mkF m 290 #[.val (.int p0), .val (.int p1), .val (.int p2), .val (.int p3), .val (.int p4), .val (.int p5), .val (.int kk), .val (.ref d), .val (.ref sc), .val (.ref ms), .val (.ref b1), .val (.int dp), .val (.int z14_0), .val (.ref b1), .val (.ref b1), .val (.ref b1)] [])) (fun t k => XS.astore X73.here hx rfl (hb hby at_288) rfl rfl (l' := #[.val (.int p0), .val (.int p1), .val (.int p2), .val (.int p3), .val (.int p4), .val (.int p5), .val (.int kk), .val (.ref d), .val (.ref sc), .val (.ref ms), .val (.ref b1), .val (.int dp), .val (.int z14_0), .val (.ref b1), .val (.ref b1), .val (.ref b1)]) rfl k) ?_
            refine own_via (S' := T73.setTop (mkF m 292 #[.val (.int p0), .val (.int p1), .val (.int p2), .val (.int p3), .val (.int p4), .val (.int p5), .val (.int kk), .val (.ref d), .val (.ref sc), .val (.ref ms), .val (.ref b1), .val (.int dp), .val (.int z14_0), .val (.ref b1), .val (.ref b1), .val (.ref b1)] [(.ref b1)])) (fun t k => XS.aload X73.here hx rfl (hb hby at_290) rfl rfl k) ?_
            refine own_via (S' := T73.setTop (mkF m 294 #[.val (.int p0), .val (.int p1), .val (.int p2), .val (.int p3), .val (.int p4), .val (.int p5), .val (.int kk), .val (.ref d), .val (.ref sc), .val (.ref ms), .val (.ref b1), .val (.int dp), .val (.int z14_0), .val (.ref b1), .val (.ref b1), .val (.ref b1)] [(.ref b1), (.ref b1)])) (fun t k => XS.aload X73.here hx rfl (hb hby at_292) rfl rfl k) ?_
            refine own_via (S' := T73.setTop (mkF m 297 #[.val (.int p0), .val (.int p1), .val (.int p2), .val (.int p3), .val (.int p4), .val (.int p5), .val (.int kk), .val (.ref d), .val (.ref sc), .val (.ref ms), .val (.ref b1), .val (.int dp), .val (.int z14_0), .val (.ref b1), .val (.ref b1), .val (.ref b1)] [])) (fun t k => Jvm.RoadKit.acmp (g := (mkF m 294 #[.val (.int p0), .val (.int p1), .val (.int p2), .val (.int p3), .val (.int p4), .val (.int p5), .val (.int kk), .val (.ref d), .val (.ref sc), .val (.ref ms), .val (.ref b1), .val (.int dp), .val (.int z14_0), .val (.ref b1), .val (.ref b1), .val (.ref b1)] [(.ref b1), (.ref b1)])) X73 hx rfl rfl rfl (pc0 := 294) (pc' := 297) (same := true) rfl (hb hby at_294) rfl (decide_eq_true rfl) (by decide) (by decide) k) ?_
            refine own_via (S' := T73.setTop (mkF m 299 #[.val (.int p0), .val (.int p1), .val (.int p2), .val (.int p3), .val (.int p4), .val (.int p5), .val (.int kk), .val (.ref d), .val (.ref sc), .val (.ref ms), .val (.ref b1), .val (.int dp), .val (.int z14_0), .val (.ref b1), .val (.ref b1), .val (.ref b1)] [(.ref b1)])) (fun t k => XS.aload X73.here hx rfl (hb hby at_297) rfl rfl k) ?_
            obtain ⟨cq75, kq75, q75a, q75b, q75c⟩ := isOf hZ e73 cx70
            obtain ⟨_, _, ⟨T75, Lp75, kp75, np75⟩, -, X75, ⟨Lc75, hQ75, l75, y75, z75⟩, st75⟩ := X73.virtualBack hx (y := mt10) (z := mt10) hown (mvT hZ (wd84 hw)) (mvT hZ (wd85 hw)) (notFace_of_selects (args := #[]) (mvT hZ (wd87 hw))) (mvT hZ (wd87 hw)) (mvT hZ (wd86 hw)) (by decide) (backOf (W := 0) (own_og0 l Z a0 hw [] b1 T63.heap n0 O66 cx74) hZ (wd88 hw) (wd18 hw) (by decide) (by decide)) q75a q75c (g := (mkF m 299 #[.val (.int p0), .val (.int p1), .val (.int p2), .val (.int p3), .val (.int p4), .val (.int p5), .val (.int kk), .val (.ref d), .val (.ref sc), .val (.ref ms), .val (.ref b1), .val (.int dp), .val (.int z14_0), .val (.ref b1), .val (.ref b1), .val (.ref b1)] [(.ref b1)])) rfl (by rw [hml]; rfl) (Steps.refl _) (argsL := []) (rest := []) (lenOf pd___Lcom_example_object_access_rules_objectaccessrules_Result__5924 rfl) rfl (by show 2 * 0 + _ ≤ _; exact Nat.le_of_eq rfl) (hb hby at_299) (fun _ _ => ⟨rfl, e73, (by decide : 15 + 0 ≤ _), (by decide : 135 + 0 ≤ _)⟩)
            dsimp only [Pt.U, Pt.locs, Pt.cells, Pt.slots] at X75 l75 y75 z75 st75 hQ75
            subst Lp75 kp75 np75
            obtain ⟨rfl, rfl, e75⟩ := hQ75
            try rw [List.append_nil] at X75
            refine own_tr (S' := T75.setTop (mkF m 302 #[.val (.int p0), .val (.int p1), .val (.int p2), .val (.int p3), .val (.int p4), .val (.int p5), .val (.int kk), .val (.ref d), .val (.ref sc), .val (.ref ms), .val (.ref b1), .val (.int dp), .val (.int z14_0), .val (.ref b1), .val (.ref b1), .val (.ref b1)] [(.ref b1)])) st75 ?_
            refine own_via (S' := T75.setTop (mkF m 304 #[.val (.int p0), .val (.int p1), .val (.int p2), .val (.int p3), .val (.int p4), .val (.int p5), .val (.int kk), .val (.ref d), .val (.ref sc), .val (.ref ms), .val (.ref b1), .val (.int dp), .val (.int z14_0), .val (.ref b1), .val (.ref b1), .val (.ref b1)] [(.ref b1), (.ref b1)])) (fun t k => XS.aload X75.here hx rfl (hb hby at_302) rfl rfl k) ?_
            refine own_via (S' := T75.setTop (mkF m 307 #[.val (.int p0), .val (.int p1), .val (.int p2), .val (.int p3), .val (.int p4), .val (.int p5), .val (.int kk), .val (.ref d), .val (.ref sc), .val (.ref ms), .val (.ref b1), .val (.int dp), .val (.int z14_0), .val (.ref b1), .val (.ref b1), .val (.ref b1)] [])) (fun t k => Jvm.RoadKit.acmp (g := (mkF m 304 #[.val (.int p0), .val (.int p1), .val (.int p2), .val (.int p3), .val (.int p4), .val (.int p5), .val (.int kk), .val (.ref d), .val (.ref sc), .val (.ref ms), .val (.ref b1), .val (.int dp), .val (.int z14_0), .val (.ref b1), .val (.ref b1), .val (.ref b1)] [(.ref b1), (.ref b1)])) X75 hx rfl rfl rfl (pc0 := 304) (pc' := 307) (same := true) rfl (hb hby at_304) rfl (decide_eq_true rfl) (by decide) (by decide) k) ?_
            refine own_via (S' := T75.setTop (mkF m 308 #[.val (.int p0), .val (.int p1), .val (.int p2), .val (.int p3), .val (.int p4), .val (.int p5), .val (.int kk), .val (.ref d), .val (.ref sc), .val (.ref ms), .val (.ref b1), .val (.int dp), .val (.int z14_0), .val (.ref b1), .val (.ref b1), .val (.ref b1)] [(.int (1 : Int32))])) (fun t k => XS.iconst X75.here hx rfl (hb hby at_307) k) ?_
            refine own_via (S' := T75.setTop (mkF m 312 #[.val (.int p0), .val (.int p1), .val (.int p2), .val (.int p3), .val (.int p4), .val (.int p5), .val (.int kk), .val (.ref d), .val (.ref sc), .val (.ref ms), .val (.ref b1), .val (.int dp), .val (.int z14_0), .val (.ref b1), .val (.ref b1), .val (.ref b1)] [(.int (1 : Int32))])) (fun t k => XS.goto X75.here hx rfl (pc0 := 308) (pc' := 312) rfl (hb hby at_308) (by decide) (by decide) k) ?_
            have RTR65 : CHr Z own_EL s.vm h0 T75.vm T63.heap := R65.trans (CHv.at X75 hZ hEL R65.1)
            have RXR65 : CHr Z own_EL s.vm s.heap T75.vm T75.heap := by rw [hh, e75]; exact RTR65
            refine own_retW (Q := Q_own_law Z p0 p1 p2 p3 p4 p5 zc wP wD wN wI wO wM wG wY h0 n0) (C := room_1.cells) (N := room_1.slots) X75 hSn5 (by rw [e75]; omega) (v := some (.int (1 : Int32))) (fun h => by rw [hret] at h; cases h) hsync ?_ RXR65 (by decide) (by decide) (fun fs hr => retN X75 hx (t := .boolean) hret (by simp) (hb hby at_312) hr)
            show Q_own_law Z p0 p1 p2 p3 p4 p5 zc wP wD wN wI wO wM wG wY h0 n0 _ T75.vm T75.heap _
            rw [e75]
            exact ⟨rfl, N63⟩
          · -- no
            refine own_via (S' := T68.setTop (mkF m 259 #[.val (.int p0), .val (.int p1), .val (.int p2), .val (.int p3), .val (.int p4), .val (.int p5), .val (.int kk), .val (.ref d), .val (.ref sc), .val (.ref ms), .val (.ref b1), .val (.int dp), .val (.int z14_0), .val (.ref b1), .val (.ref b1), .unset] [])) (fun t k => XS.ifNo X68.here hx rfl (hb hby at_256) rfl ((if0 _ _).trans (feq hc256_72).1) k) ?_
            refine own_via (S' := T68.setTop (mkF m 261 #[.val (.int p0), .val (.int p1), .val (.int p2), .val (.int p3), .val (.int p4), .val (.int p5), .val (.int kk), .val (.ref d), .val (.ref sc), .val (.ref ms), .val (.ref b1), .val (.int dp), .val (.int z14_0), .val (.ref b1), .val (.ref b1), .unset] [(.ref b1)])) (fun t k => XS.aload X68.here hx rfl (hb hby at_259) rfl rfl k) ?_
            have cx77 : Fld Z T63.heap b1 "com/example/object_access_rules/objectaccessrules/Result" "step" "Ljava/lang/String;" .null := ((f5_3.keep K34q nin0).keep K63q nin0)
            have cx78 : Fld Z T63.heap b1 "com/example/object_access_rules/objectaccessrules/Result" "below" "Lcom/example/object_access_rules/objectaccessrules/Result;" .null := ((f5_4.keep K34q nin0).keep K63q nin0)
            have hk76 : T5.heap.size ≤ T68.heap.size := by rw [e68]; omega
            obtain ⟨cq76, kq76, q76a, q76b, q76c⟩ := isOf hZ e68 cx70
            obtain ⟨_, _, ⟨T76, Lp76, kp76, np76⟩, -, X76, hS76, hgr76, ⟨Lc76, ⟨hQ76, R76q⟩, l76, y76, z76⟩, st76⟩ := X68.virtualBackS hx (y := mt9) (z := mt9) hown (mvT hZ (wd89 hw)) (mvT hZ (wd90 hw)) (notFace_of_selects (args := #[]) (mvT hZ (wd92 hw))) (mvT hZ (wd92 hw)) (mvT hZ (wd91 hw)) (by decide) (own_backW (SL := []) (W := 0) (own_adN l Z a0 hw [] b1 wI wO wD T63.heap n0 O66 zf_S_com_example_object_access_rules_objectaccessrules_Decision_INDETERMINATE zf_S_com_example_object_access_rules_objectaccessrules_StatusCode_OK zf_S_com_example_object_access_rules_objectaccessrules_Decision_DENY zf_E_wD zf_E_wO cx77 cx78 hD.2.2.2.2.1) hZ (wd93 hw) (wd18 hw) (by decide) (by decide) hEL R65.1 all0) q76a q76c (g := (mkF m 261 #[.val (.int p0), .val (.int p1), .val (.int p2), .val (.int p3), .val (.int p4), .val (.int p5), .val (.int kk), .val (.ref d), .val (.ref sc), .val (.ref ms), .val (.ref b1), .val (.int dp), .val (.int z14_0), .val (.ref b1), .val (.ref b1), .unset] [(.ref b1)])) rfl (by rw [hml]; rfl) (Steps.refl _) (argsL := []) (rest := []) (lenOf pd___Lcom_example_object_access_rules_objectaccessrules_Result__5924 rfl) rfl (by show 2 * 0 + _ ≤ _; exact Nat.le_of_eq rfl) (hb hby at_261) (fun _ _ => ⟨rfl, e68, (by decide : 15 + 9 ≤ _), (by decide : 135 + 105 ≤ _)⟩)
            dsimp only [Pt.U, Pt.locs, Pt.cells, Pt.slots] at X76 l76 y76 z76 st76 hQ76 hS76 hgr76 R76q
            subst Lp76 kp76 np76
            obtain ⟨X76, hSn76, hZ, hown⟩ := rebS hSn5 hk76 X76 hS76 hgr76 hZ hown
            obtain ⟨b76, rfl, N76q, K76q, f76_0, f76_1, f76_2⟩ := hQ76
            have N76 := Fr.app N63 N76q
            have sz79 : T63.heap.size ≤ T76.heap.size := K76q.1
            have R80 : CHr Z own_EL s.vm h0 T76.vm T76.heap := R65.trans R76q
            have O81 : Old Z n0 T76.heap := O66.keep K76q all0
            have lt82_b76 : T76.heap.size > b76 := f76_0.lt
            have lt83_b76 : T76.heap.size > b76 := f76_1.lt
            have lt84_b76 : T76.heap.size > b76 := f76_2.lt
            refine own_tr (S' := T76.setTop (mkF m 264 #[.val (.int p0), .val (.int p1), .val (.int p2), .val (.int p3), .val (.int p4), .val (.int p5), .val (.int kk), .val (.ref d), .val (.ref sc), .val (.ref ms), .val (.ref b1), .val (.int dp), .val (.int z14_0), .val (.ref b1), .val (.ref b1), .unset] [(.ref b76)])) st76 ?_
            refine own_via (S' := T76.setTop (mkF m 266 #[.val (.int p0), .val (.int p1), .val (.int p2), .val (.int p3), .val (.int p4), .val (.int p5), .val (.int kk), .val (.ref d), .val (.ref sc), .val (.ref ms), .val (.ref b1), .val (.int dp), .val (.int z14_0), .val (.ref b76), .val (.ref b1), .unset] [])) (fun t k => XS.astore X76.here hx rfl (hb hby at_264) rfl rfl (l' := #[.val (.int p0), .val (.int p1), .val (.int p2), .val (.int p3), .val (.int p4), .val (.int p5), .val (.int kk), .val (.ref d), .val (.ref sc), .val (.ref ms), .val (.ref b1), .val (.int dp), .val (.int z14_0), .val (.ref b76), .val (.ref b1), .unset]) rfl k) ?_
            refine own_via (S' := T76.setTop (mkF m 268 #[.val (.int p0), .val (.int p1), .val (.int p2), .val (.int p3), .val (.int p4), .val (.int p5), .val (.int kk), .val (.ref d), .val (.ref sc), .val (.ref ms), .val (.ref b1), .val (.int dp), .val (.int z14_0), .val (.ref b76), .val (.ref b1), .unset] [(.int dp)])) (fun t k => XS.iload X76.here hx rfl (hb hby at_266) rfl k) ?_
            have hc268_85 : ¬ (dp = (0 : Int32)) := fun q => hc185_16 (by rw [q]; decide)
            refine own_via (S' := T76.setTop (mkF m 271 #[.val (.int p0), .val (.int p1), .val (.int p2), .val (.int p3), .val (.int p4), .val (.int p5), .val (.int kk), .val (.ref d), .val (.ref sc), .val (.ref ms), .val (.ref b1), .val (.int dp), .val (.int z14_0), .val (.ref b76), .val (.ref b1), .unset] [])) (fun t k => XS.ifNo X76.here hx rfl (hb hby at_268) rfl ((if0 _ _).trans (feq hc268_85).1) k) ?_
            refine own_via (S' := T76.setTop (mkF m 273 #[.val (.int p0), .val (.int p1), .val (.int p2), .val (.int p3), .val (.int p4), .val (.int p5), .val (.int kk), .val (.ref d), .val (.ref sc), .val (.ref ms), .val (.ref b1), .val (.int dp), .val (.int z14_0), .val (.ref b76), .val (.ref b1), .unset] [(.ref d)])) (fun t k => XS.aload X76.here hx rfl (hb hby at_271) rfl rfl k) ?_
            have cx86 : Sta Z T76.heap "com/example/object_access_rules/objectaccessrules/Decision" "NOT_APPLICABLE" "Lcom/example/object_access_rules/objectaccessrules/Decision;" (.ref wN) := zf_S_com_example_object_access_rules_objectaccessrules_Decision_NOT_APPLICABLE.ext O81.2
            obtain ⟨T87, X87, e87, st87⟩ := getS2 X76 hx hZ hown (host := "") (Or.inl (wd97 hw)) Via.refl rfl cx86 (g := (mkF m 273 #[.val (.int p0), .val (.int p1), .val (.int p2), .val (.int p3), .val (.int p4), .val (.int p5), .val (.int kk), .val (.ref d), .val (.ref sc), .val (.ref ms), .val (.ref b1), .val (.int dp), .val (.int z14_0), .val (.ref b76), .val (.ref b1), .unset] [(.ref d)])) rfl (hb hby at_273)
            refine own_via (S' := T87.setTop (mkF m 276 #[.val (.int p0), .val (.int p1), .val (.int p2), .val (.int p3), .val (.int p4), .val (.int p5), .val (.int kk), .val (.ref d), .val (.ref sc), .val (.ref ms), .val (.ref b1), .val (.int dp), .val (.int z14_0), .val (.ref b76), .val (.ref b1), .unset] [(.ref wN), (.ref d)])) st87 ?_
            refine own_via (S' := T87.setTop (mkF m 279 #[.val (.int p0), .val (.int p1), .val (.int p2), .val (.int p3), .val (.int p4), .val (.int p5), .val (.int kk), .val (.ref d), .val (.ref sc), .val (.ref ms), .val (.ref b1), .val (.int dp), .val (.int z14_0), .val (.ref b76), .val (.ref b1), .unset] [])) (fun t k => Jvm.RoadKit.acmp (g := (mkF m 276 #[.val (.int p0), .val (.int p1), .val (.int p2), .val (.int p3), .val (.int p4), .val (.int p5), .val (.int kk), .val (.ref d), .val (.ref sc), .val (.ref ms), .val (.ref b1), .val (.int dp), .val (.int z14_0), .val (.ref b76), .val (.ref b1), .unset] [(.ref wN), (.ref d)])) X87 hx rfl rfl rfl (pc0 := 276) (pc' := 279) (same := true) rfl (hb hby at_276) rfl (decide_eq_true (congrArg Value.ref hs199_39)) (by decide) (by decide) k) ?_
            refine own_via (S' := T87.setTop (mkF m 281 #[.val (.int p0), .val (.int p1), .val (.int p2), .val (.int p3), .val (.int p4), .val (.int p5), .val (.int kk), .val (.ref d), .val (.ref sc), .val (.ref ms), .val (.ref b1), .val (.int dp), .val (.int z14_0), .val (.ref b76), .val (.ref b1), .unset] [(.ref b76)])) (fun t k => XS.aload X87.here hx rfl (hb hby at_279) rfl rfl k) ?_
            refine own_via (S' := T87.setTop (mkF m 283 #[.val (.int p0), .val (.int p1), .val (.int p2), .val (.int p3), .val (.int p4), .val (.int p5), .val (.int kk), .val (.ref d), .val (.ref sc), .val (.ref ms), .val (.ref b1), .val (.int dp), .val (.int z14_0), .val (.ref b76), .val (.ref b76), .unset] [])) (fun t k => XS.astore X87.here hx rfl (hb hby at_281) rfl rfl (l' := #[.val (.int p0), .val (.int p1), .val (.int p2), .val (.int p3), .val (.int p4), .val (.int p5), .val (.int kk), .val (.ref d), .val (.ref sc), .val (.ref ms), .val (.ref b1), .val (.int dp), .val (.int z14_0), .val (.ref b76), .val (.ref b76), .unset]) rfl k) ?_
            refine own_via (S' := T87.setTop (mkF m 285 #[.val (.int p0), .val (.int p1), .val (.int p2), .val (.int p3), .val (.int p4), .val (.int p5), .val (.int kk), .val (.ref d), .val (.ref sc), .val (.ref ms), .val (.ref b1), .val (.int dp), .val (.int z14_0), .val (.ref b76), .val (.ref b76), .unset] [(.ref b76)])) (fun t k => XS.aload X87.here hx rfl (hb hby at_283) rfl rfl k) ?_
            obtain ⟨cq88, kq88, q88a, q88b, q88c⟩ := isOf hZ e87 f76_0
            obtain ⟨_, _, ⟨T88, Lp88, kp88, np88⟩, -, X88, ⟨Lc88, hQ88, l88, y88, z88⟩, st88⟩ := X87.virtualBack hx (y := mt10) (z := mt10) hown (mvT hZ (wd84 hw)) (mvT hZ (wd85 hw)) (notFace_of_selects (args := #[]) (mvT hZ (wd87 hw))) (mvT hZ (wd87 hw)) (mvT hZ (wd86 hw)) (by decide) (backOf (W := 0) (own_og0 l Z a0 hw [] b76 T76.heap n0 O81 f76_2) hZ (wd88 hw) (wd18 hw) (by decide) (by decide)) q88a q88c (g := (mkF m 285 #[.val (.int p0), .val (.int p1), .val (.int p2), .val (.int p3), .val (.int p4), .val (.int p5), .val (.int kk), .val (.ref d), .val (.ref sc), .val (.ref ms), .val (.ref b1), .val (.int dp), .val (.int z14_0), .val (.ref b76), .val (.ref b76), .unset] [(.ref b76)])) rfl (by rw [hml]; rfl) (Steps.refl _) (argsL := []) (rest := []) (lenOf pd___Lcom_example_object_access_rules_objectaccessrules_Result__5924 rfl) rfl (by show 2 * 0 + _ ≤ _; exact Nat.le_of_eq rfl) (hb hby at_285) (fun _ _ => ⟨rfl, e87, (by decide : 24 + 0 ≤ _), (by decide : 240 + 0 ≤ _)⟩)
            dsimp only [Pt.U, Pt.locs, Pt.cells, Pt.slots] at X88 l88 y88 z88 st88 hQ88
            subst Lp88 kp88 np88
            obtain ⟨rfl, rfl, e88⟩ := hQ88
            try rw [List.append_nil] at X88
            refine own_tr (S' := T88.setTop (mkF m 288 #[.val (.int p0), .val (.int p1), .val (.int p2), .val (.int p3), .val (.int p4), .val (.int p5), .val (.int kk), .val (.ref d), .val (.ref sc), .val (.ref ms), .val (.ref b1), .val (.int dp), .val (.int z14_0), .val (.ref b76), .val (.ref b76), .unset] [(.ref b76)])) st88 ?_
            refine own_via (S' := T88.setTop (mkF m 290 #[.val (.int p0), .val (.int p1), .val (.int p2), .val (.int p3), .val (.int p4), .val (.int p5), .val (.int kk), .val (.ref d), .val (.ref sc), .val (.ref ms), .val (.ref b1), .val (.int dp), .val (.int z14_0), .val (.ref b76), .val (.ref b76), .val (.ref b76)] [])) (fun t k => XS.astore X88.here hx rfl (hb hby at_288) rfl rfl (l' := #[.val (.int p0), .val (.int p1), .val (.int p2), .val (.int p3), .val (.int p4), .val (.int p5), .val (.int kk), .val (.ref d), .val (.ref sc), .val (.ref ms), .val (.ref b1), .val (.int dp), .val (.int z14_0), .val (.ref b76), .val (.ref b76), .val (.ref b76)]) rfl k) ?_
            refine own_via (S' := T88.setTop (mkF m 292 #[.val (.int p0), .val (.int p1), .val (.int p2), .val (.int p3), .val (.int p4), .val (.int p5), .val (.int kk), .val (.ref d), .val (.ref sc), .val (.ref ms), .val (.ref b1), .val (.int dp), .val (.int z14_0), .val (.ref b76), .val (.ref b76), .val (.ref b76)] [(.ref b76)])) (fun t k => XS.aload X88.here hx rfl (hb hby at_290) rfl rfl k) ?_
            refine own_via (S' := T88.setTop (mkF m 294 #[.val (.int p0), .val (.int p1), .val (.int p2), .val (.int p3), .val (.int p4), .val (.int p5), .val (.int kk), .val (.ref d), .val (.ref sc), .val (.ref ms), .val (.ref b1), .val (.int dp), .val (.int z14_0), .val (.ref b76), .val (.ref b76), .val (.ref b76)] [(.ref b76), (.ref b76)])) (fun t k => XS.aload X88.here hx rfl (hb hby at_292) rfl rfl k) ?_
            refine own_via (S' := T88.setTop (mkF m 297 #[.val (.int p0), .val (.int p1), .val (.int p2), .val (.int p3), .val (.int p4), .val (.int p5), .val (.int kk), .val (.ref d), .val (.ref sc), .val (.ref ms), .val (.ref b1), .val (.int dp), .val (.int z14_0), .val (.ref b76), .val (.ref b76), .val (.ref b76)] [])) (fun t k => Jvm.RoadKit.acmp (g := (mkF m 294 #[.val (.int p0), .val (.int p1), .val (.int p2), .val (.int p3), .val (.int p4), .val (.int p5), .val (.int kk), .val (.ref d), .val (.ref sc), .val (.ref ms), .val (.ref b1), .val (.int dp), .val (.int z14_0), .val (.ref b76), .val (.ref b76), .val (.ref b76)] [(.ref b76), (.ref b76)])) X88 hx rfl rfl rfl (pc0 := 294) (pc' := 297) (same := true) rfl (hb hby at_294) rfl (decide_eq_true rfl) (by decide) (by decide) k) ?_
            refine own_via (S' := T88.setTop (mkF m 299 #[.val (.int p0), .val (.int p1), .val (.int p2), .val (.int p3), .val (.int p4), .val (.int p5), .val (.int kk), .val (.ref d), .val (.ref sc), .val (.ref ms), .val (.ref b1), .val (.int dp), .val (.int z14_0), .val (.ref b76), .val (.ref b76), .val (.ref b76)] [(.ref b76)])) (fun t k => XS.aload X88.here hx rfl (hb hby at_297) rfl rfl k) ?_
            obtain ⟨cq89, kq89, q89a, q89b, q89c⟩ := isOf hZ e88 f76_0
            obtain ⟨_, _, ⟨T89, Lp89, kp89, np89⟩, -, X89, ⟨Lc89, hQ89, l89, y89, z89⟩, st89⟩ := X88.virtualBack hx (y := mt10) (z := mt10) hown (mvT hZ (wd84 hw)) (mvT hZ (wd85 hw)) (notFace_of_selects (args := #[]) (mvT hZ (wd87 hw))) (mvT hZ (wd87 hw)) (mvT hZ (wd86 hw)) (by decide) (backOf (W := 0) (own_og0 l Z a0 hw [] b76 T76.heap n0 O81 f76_2) hZ (wd88 hw) (wd18 hw) (by decide) (by decide)) q89a q89c (g := (mkF m 299 #[.val (.int p0), .val (.int p1), .val (.int p2), .val (.int p3), .val (.int p4), .val (.int p5), .val (.int kk), .val (.ref d), .val (.ref sc), .val (.ref ms), .val (.ref b1), .val (.int dp), .val (.int z14_0), .val (.ref b76), .val (.ref b76), .val (.ref b76)] [(.ref b76)])) rfl (by rw [hml]; rfl) (Steps.refl _) (argsL := []) (rest := []) (lenOf pd___Lcom_example_object_access_rules_objectaccessrules_Result__5924 rfl) rfl (by show 2 * 0 + _ ≤ _; exact Nat.le_of_eq rfl) (hb hby at_299) (fun _ _ => ⟨rfl, e88, (by decide : 24 + 0 ≤ _), (by decide : 240 + 0 ≤ _)⟩)
            dsimp only [Pt.U, Pt.locs, Pt.cells, Pt.slots] at X89 l89 y89 z89 st89 hQ89
            subst Lp89 kp89 np89
            obtain ⟨rfl, rfl, e89⟩ := hQ89
            try rw [List.append_nil] at X89
            refine own_tr (S' := T89.setTop (mkF m 302 #[.val (.int p0), .val (.int p1), .val (.int p2), .val (.int p3), .val (.int p4), .val (.int p5), .val (.int kk), .val (.ref d), .val (.ref sc), .val (.ref ms), .val (.ref b1), .val (.int dp), .val (.int z14_0), .val (.ref b76), .val (.ref b76), .val (.ref b76)] [(.ref b76)])) st89 ?_
            refine own_via (S' := T89.setTop (mkF m 304 #[.val (.int p0), .val (.int p1), .val (.int p2), .val (.int p3), .val (.int p4), .val (.int p5), .val (.int kk), .val (.ref d), .val (.ref sc), .val (.ref ms), .val (.ref b1), .val (.int dp), .val (.int z14_0), .val (.ref b76), .val (.ref b76), .val (.ref b76)] [(.ref b76), (.ref b76)])) (fun t k => XS.aload X89.here hx rfl (hb hby at_302) rfl rfl k) ?_
            refine own_via (S' := T89.setTop (mkF m 307 #[.val (.int p0), .val (.int p1), .val (.int p2), .val (.int p3), .val (.int p4), .val (.int p5), .val (.int kk), .val (.ref d), .val (.ref sc), .val (.ref ms), .val (.ref b1), .val (.int dp), .val (.int z14_0), .val (.ref b76), .val (.ref b76), .val (.ref b76)] [])) (fun t k => Jvm.RoadKit.acmp (g := (mkF m 304 #[.val (.int p0), .val (.int p1), .val (.int p2), .val (.int p3), .val (.int p4), .val (.int p5), .val (.int kk), .val (.ref d), .val (.ref sc), .val (.ref ms), .val (.ref b1), .val (.int dp), .val (.int z14_0), .val (.ref b76), .val (.ref b76), .val (.ref b76)] [(.ref b76), (.ref b76)])) X89 hx rfl rfl rfl (pc0 := 304) (pc' := 307) (same := true) rfl (hb hby at_304) rfl (decide_eq_true rfl) (by decide) (by decide) k) ?_
            refine own_via (S' := T89.setTop (mkF m 308 #[.val (.int p0), .val (.int p1), .val (.int p2), .val (.int p3), .val (.int p4), .val (.int p5), .val (.int kk), .val (.ref d), .val (.ref sc), .val (.ref ms), .val (.ref b1), .val (.int dp), .val (.int z14_0), .val (.ref b76), .val (.ref b76), .val (.ref b76)] [(.int (1 : Int32))])) (fun t k => XS.iconst X89.here hx rfl (hb hby at_307) k) ?_
            refine own_via (S' := T89.setTop (mkF m 312 #[.val (.int p0), .val (.int p1), .val (.int p2), .val (.int p3), .val (.int p4), .val (.int p5), .val (.int kk), .val (.ref d), .val (.ref sc), .val (.ref ms), .val (.ref b1), .val (.int dp), .val (.int z14_0), .val (.ref b76), .val (.ref b76), .val (.ref b76)] [(.int (1 : Int32))])) (fun t k => XS.goto X89.here hx rfl (pc0 := 308) (pc' := 312) rfl (hb hby at_308) (by decide) (by decide) k) ?_
            have RTR80 : CHr Z own_EL s.vm h0 T89.vm T76.heap := R80.trans (CHv.at X89 hZ hEL R80.1)
            have RXR80 : CHr Z own_EL s.vm s.heap T89.vm T89.heap := by rw [hh, e89]; exact RTR80
            refine own_retW (Q := Q_own_law Z p0 p1 p2 p3 p4 p5 zc wP wD wN wI wO wM wG wY h0 n0) (C := room_1.cells) (N := room_1.slots) X89 hSn76 (by rw [e89]; omega) (v := some (.int (1 : Int32))) (fun h => by rw [hret] at h; cases h) hsync ?_ RXR80 (by decide) (by decide) (fun fs hr => retN X89 hx (t := .boolean) hret (by simp) (hb hby at_312) hr)
            show Q_own_law Z p0 p1 p2 p3 p4 p5 zc wP wD wN wI wO wM wG wY h0 n0 _ T89.vm T89.heap _
            rw [e89]
            exact ⟨rfl, N76⟩
        · -- no
          refine own_via (S' := T68.setTop (mkF m 233 #[.val (.int p0), .val (.int p1), .val (.int p2), .val (.int p3), .val (.int p4), .val (.int p5), .val (.int kk), .val (.ref d), .val (.ref sc), .val (.ref ms), .val (.ref b1), .val (.int dp), .val (.int z14_0), .val (.ref b1), .unset, .unset] [])) (fun t k => XS.icmpNo X68.here hx rfl (hb hby at_230) rfl (flt hc230_71).1 k) ?_
          refine own_via (S' := T68.setTop (mkF m 235 #[.val (.int p0), .val (.int p1), .val (.int p2), .val (.int p3), .val (.int p4), .val (.int p5), .val (.int kk), .val (.ref d), .val (.ref sc), .val (.ref ms), .val (.ref b1), .val (.int dp), .val (.int z14_0), .val (.ref b1), .unset, .unset] [(.ref b1)])) (fun t k => XS.aload X68.here hx rfl (hb hby at_233) rfl rfl k) ?_
          refine own_via (S' := T68.setTop (mkF m 237 #[.val (.int p0), .val (.int p1), .val (.int p2), .val (.int p3), .val (.int p4), .val (.int p5), .val (.int kk), .val (.ref d), .val (.ref sc), .val (.ref ms), .val (.ref b1), .val (.int dp), .val (.int z14_0), .val (.ref b1), .unset, .unset] [(.int p5), (.ref b1)])) (fun t k => XS.iload X68.here hx rfl (hb hby at_235) rfl k) ?_
          refine own_via (S' := T68.setTop (mkF m 240 #[.val (.int p0), .val (.int p1), .val (.int p2), .val (.int p3), .val (.int p4), .val (.int p5), .val (.int kk), .val (.ref d), .val (.ref sc), .val (.ref ms), .val (.ref b1), .val (.int dp), .val (.int z14_0), .val (.ref b1), .unset, .unset] [(.int (255 : Int32)), (.int p5), (.ref b1)])) (fun t k => XS.sipush X68.here hx rfl (hb hby at_237) k) ?_
          refine own_via (S' := T68.setTop (mkF m 241 #[.val (.int p0), .val (.int p1), .val (.int p2), .val (.int p3), .val (.int p4), .val (.int p5), .val (.int kk), .val (.ref d), .val (.ref sc), .val (.ref ms), .val (.ref b1), .val (.int dp), .val (.int z14_0), .val (.ref b1), .unset, .unset] [(.int (p5 &&& (255 : Int32))), (.ref b1)])) (fun t k => XS.iand X68.here hx rfl (hb hby at_240) rfl k) ?_
          refine own_via (S' := T68.setTop (mkF m 242 #[.val (.int p0), .val (.int p1), .val (.int p2), .val (.int p3), .val (.int p4), .val (.int p5), .val (.int kk), .val (.ref d), .val (.ref sc), .val (.ref ms), .val (.ref b1), .val (.int dp), .val (.int z14_0), .val (.ref b1), .unset, .unset] [(.int ((p5 &&& (255 : Int32)).toUInt32.toUInt16.toUInt32.toInt32)), (.ref b1)])) (fun t k => XS.i2c X68.here hx rfl (hb hby at_241) rfl k) ?_
          obtain ⟨ch3, hn_ch3⟩ : ∃ z : Int32, z = ((p5 &&& (255 : Int32)).toUInt32.toUInt16.toUInt32.toInt32) := ⟨_, rfl⟩
          rw [← hn_ch3]
          have rng_ch3 : ¬ ch3 < 0 ∧ ¬ (255 : Int32) < ch3 := by rw [hn_ch3]; exact own_and255 _
          obtain ⟨_, _, ⟨T90, Lp90, kp90, np90⟩, -, X90, ⟨Lc90, hQ90, l90, y90, z90⟩, st90⟩ := Jvm.LawKit.callS X68 hx (y := mt7) hown (mvT hZ (wd59 hw)) (mvT hZ (wd60 hw)) (mvT hZ (wd9 hw)) (mvT hZ (wd61 hw)) (by decide) (backOf (W := 1) (own_valueOf l Z a0 hw [] ch3 zc T63.heap n0 O66 zf_S_java_lang_String_COMPACT_STRINGS hzc rng_ch3) hZ (wd61 hw) (wd9 hw) (by decide) (by decide)) (g := (mkF m 242 #[.val (.int p0), .val (.int p1), .val (.int p2), .val (.int p3), .val (.int p4), .val (.int p5), .val (.int kk), .val (.ref d), .val (.ref sc), .val (.ref ms), .val (.ref b1), .val (.int dp), .val (.int z14_0), .val (.ref b1), .unset, .unset] [(.int ch3), (.ref b1)])) rfl (by rw [hml]; rfl) (argsL := [(.int ch3)]) (rest := [(.ref b1)]) (lenOf pd__C_Ljava_lang_String__1844 rfl) rfl (by show 2 * 0 + _ ≤ _; exact Nat.le_of_eq rfl) (hb hby at_242) (fun _ _ => ⟨rfl, e68, (by decide : 15 + 2 ≤ _), (by decide : 135 + 5 ≤ _)⟩)
          dsimp only [Pt.U, Pt.locs, Pt.cells, Pt.slots] at X90 l90 y90 z90 st90 hQ90
          subst Lp90 kp90 np90
          obtain ⟨b90, rfl, N90q, K90q, f90_0⟩ := hQ90
          have N90 := Fr.app N63 N90q
          have sf90 : ∀ x ∈ ([] : List Addr), Safe Z own_EL T5.vm T63.heap x := sf0
          have sz91 : T63.heap.size ≤ T90.heap.size := K90q.1
          have R92 : CHr Z own_EL s.vm h0 T5.vm T90.heap := R65.trans (CHr.keep K90q sf90 R65.1)
          have O93 : Old Z n0 T90.heap := O66.keep K90q all0
          have lt94_b90 : T90.heap.size > b90 := f90_0.lt
          refine own_via (S' := T90.setTop (mkF m 245 #[.val (.int p0), .val (.int p1), .val (.int p2), .val (.int p3), .val (.int p4), .val (.int p5), .val (.int kk), .val (.ref d), .val (.ref sc), .val (.ref ms), .val (.ref b1), .val (.int dp), .val (.int z14_0), .val (.ref b1), .unset, .unset] [(.ref b90), (.ref b1)])) st90 ?_
          have cx96 : Fld Z T90.heap b1 "com/example/object_access_rules/objectaccessrules/Result" "decision" "Lcom/example/object_access_rules/objectaccessrules/Decision;" (.ref d) := (cx69.keep K90q nin0)
          have cx97 : Exa Z T90.heap b1 "com/example/object_access_rules/objectaccessrules/Result" := (cx70.keep K90q)
          obtain ⟨cq95, kq95, q95a, q95b, q95c⟩ := isOf hZ rfl cx97
          obtain ⟨_, _, ⟨T95, Lp95, kp95, np95⟩, -, X95, ⟨Lc95, hQ95, l95, y95, z95⟩, st95⟩ := X90.virtualBack hx (y := mt8) (z := mt8) hown (mvT hZ (wd76 hw)) (mvT hZ (wd77 hw)) (notFace_of_selects (args := #[]) (mvT hZ (wd79 hw))) (mvT hZ (wd79 hw)) (mvT hZ (wd78 hw)) (by decide) (backOf (W := 0) (own_thrN l Z a0 hw [] b1 b90 d wN T90.heap n0 O93 zf_S_com_example_object_access_rules_objectaccessrules_Decision_NOT_APPLICABLE cx96 hs199_39) hZ (wd80 hw) (wd18 hw) (by decide) (by decide)) q95a q95c (g := (mkF m 245 #[.val (.int p0), .val (.int p1), .val (.int p2), .val (.int p3), .val (.int p4), .val (.int p5), .val (.int kk), .val (.ref d), .val (.ref sc), .val (.ref ms), .val (.ref b1), .val (.int dp), .val (.int z14_0), .val (.ref b1), .unset, .unset] [(.ref b90), (.ref b1)])) rfl (by rw [hml]; rfl) (Steps.refl _) (argsL := [(.ref b90)]) (rest := []) (lenOf pd__Ljava_lang_String__Lcom_example_object_access_rules_objectaccessrules_Result__7620 rfl) rfl (by show 2 * 0 + _ ≤ _; exact Nat.le_of_eq rfl) (hb hby at_245) (fun _ _ => ⟨rfl, rfl, (by decide : 17 + 0 ≤ _), (by decide : 140 + 0 ≤ _)⟩)
          dsimp only [Pt.U, Pt.locs, Pt.cells, Pt.slots] at X95 l95 y95 z95 st95 hQ95
          subst Lp95 kp95 np95
          obtain ⟨rfl, rfl, e95⟩ := hQ95
          try rw [List.append_nil] at X95
          refine own_tr (S' := T95.setTop (mkF m 248 #[.val (.int p0), .val (.int p1), .val (.int p2), .val (.int p3), .val (.int p4), .val (.int p5), .val (.int kk), .val (.ref d), .val (.ref sc), .val (.ref ms), .val (.ref b1), .val (.int dp), .val (.int z14_0), .val (.ref b1), .unset, .unset] [(.ref b1)])) st95 ?_
          refine own_via (S' := T95.setTop (mkF m 250 #[.val (.int p0), .val (.int p1), .val (.int p2), .val (.int p3), .val (.int p4), .val (.int p5), .val (.int kk), .val (.ref d), .val (.ref sc), .val (.ref ms), .val (.ref b1), .val (.int dp), .val (.int z14_0), .val (.ref b1), .unset, .unset] [])) (fun t k => XS.astore X95.here hx rfl (hb hby at_248) rfl rfl (l' := #[.val (.int p0), .val (.int p1), .val (.int p2), .val (.int p3), .val (.int p4), .val (.int p5), .val (.int kk), .val (.ref d), .val (.ref sc), .val (.ref ms), .val (.ref b1), .val (.int dp), .val (.int z14_0), .val (.ref b1), .unset, .unset]) rfl k) ?_
          refine own_via (S' := T95.setTop (mkF m 252 #[.val (.int p0), .val (.int p1), .val (.int p2), .val (.int p3), .val (.int p4), .val (.int p5), .val (.int kk), .val (.ref d), .val (.ref sc), .val (.ref ms), .val (.ref b1), .val (.int dp), .val (.int z14_0), .val (.ref b1), .unset, .unset] [(.ref b1)])) (fun t k => XS.aload X95.here hx rfl (hb hby at_250) rfl rfl k) ?_
          refine own_via (S' := T95.setTop (mkF m 254 #[.val (.int p0), .val (.int p1), .val (.int p2), .val (.int p3), .val (.int p4), .val (.int p5), .val (.int kk), .val (.ref d), .val (.ref sc), .val (.ref ms), .val (.ref b1), .val (.int dp), .val (.int z14_0), .val (.ref b1), .val (.ref b1), .unset] [])) (fun t k => XS.astore X95.here hx rfl (hb hby at_252) rfl rfl (l' := #[.val (.int p0), .val (.int p1), .val (.int p2), .val (.int p3), .val (.int p4), .val (.int p5), .val (.int kk), .val (.ref d), .val (.ref sc), .val (.ref ms), .val (.ref b1), .val (.int dp), .val (.int z14_0), .val (.ref b1), .val (.ref b1), .unset]) rfl k) ?_
          refine own_via (S' := T95.setTop (mkF m 256 #[.val (.int p0), .val (.int p1), .val (.int p2), .val (.int p3), .val (.int p4), .val (.int p5), .val (.int kk), .val (.ref d), .val (.ref sc), .val (.ref ms), .val (.ref b1), .val (.int dp), .val (.int z14_0), .val (.ref b1), .val (.ref b1), .unset] [(.int z14_0)])) (fun t k => XS.iload X95.here hx rfl (hb hby at_254) rfl k) ?_
          by_cases hc256_98 : z14_0 = (0 : Int32)
          · -- yes
            refine own_via (S' := T95.setTop (mkF m 283 #[.val (.int p0), .val (.int p1), .val (.int p2), .val (.int p3), .val (.int p4), .val (.int p5), .val (.int kk), .val (.ref d), .val (.ref sc), .val (.ref ms), .val (.ref b1), .val (.int dp), .val (.int z14_0), .val (.ref b1), .val (.ref b1), .unset] [])) (fun t k => XS.ifYes X95.here hx rfl (pc0 := 256) (pc' := 283) rfl (hb hby at_256) rfl ((if0 _ _).trans (teq hc256_98).1) (by decide) (by decide) k) ?_
            refine own_via (S' := T95.setTop (mkF m 285 #[.val (.int p0), .val (.int p1), .val (.int p2), .val (.int p3), .val (.int p4), .val (.int p5), .val (.int kk), .val (.ref d), .val (.ref sc), .val (.ref ms), .val (.ref b1), .val (.int dp), .val (.int z14_0), .val (.ref b1), .val (.ref b1), .unset] [(.ref b1)])) (fun t k => XS.aload X95.here hx rfl (hb hby at_283) rfl rfl k) ?_
            have cx100 : Fld Z T90.heap b1 "com/example/object_access_rules/objectaccessrules/Result" "below" "Lcom/example/object_access_rules/objectaccessrules/Result;" .null := (((f5_4.keep K34q nin0).keep K63q nin0).keep K90q nin0)
            obtain ⟨cq99, kq99, q99a, q99b, q99c⟩ := isOf hZ e95 cx97
            obtain ⟨_, _, ⟨T99, Lp99, kp99, np99⟩, -, X99, ⟨Lc99, hQ99, l99, y99, z99⟩, st99⟩ := X95.virtualBack hx (y := mt10) (z := mt10) hown (mvT hZ (wd84 hw)) (mvT hZ (wd85 hw)) (notFace_of_selects (args := #[]) (mvT hZ (wd87 hw))) (mvT hZ (wd87 hw)) (mvT hZ (wd86 hw)) (by decide) (backOf (W := 0) (own_og0 l Z a0 hw [] b1 T90.heap n0 O93 cx100) hZ (wd88 hw) (wd18 hw) (by decide) (by decide)) q99a q99c (g := (mkF m 285 #[.val (.int p0), .val (.int p1), .val (.int p2), .val (.int p3), .val (.int p4), .val (.int p5), .val (.int kk), .val (.ref d), .val (.ref sc), .val (.ref ms), .val (.ref b1), .val (.int dp), .val (.int z14_0), .val (.ref b1), .val (.ref b1), .unset] [(.ref b1)])) rfl (by rw [hml]; rfl) (Steps.refl _) (argsL := []) (rest := []) (lenOf pd___Lcom_example_object_access_rules_objectaccessrules_Result__5924 rfl) rfl (by show 2 * 0 + _ ≤ _; exact Nat.le_of_eq rfl) (hb hby at_285) (fun _ _ => ⟨rfl, e95, (by decide : 17 + 0 ≤ _), (by decide : 140 + 0 ≤ _)⟩)
            dsimp only [Pt.U, Pt.locs, Pt.cells, Pt.slots] at X99 l99 y99 z99 st99 hQ99
            subst Lp99 kp99 np99
            obtain ⟨rfl, rfl, e99⟩ := hQ99
            try rw [List.append_nil] at X99
            refine own_tr (S' := T99.setTop (mkF m 288 #[.val (.int p0), .val (.int p1), .val (.int p2), .val (.int p3), .val (.int p4), .val (.int p5), .val (.int kk), .val (.ref d), .val (.ref sc), .val (.ref ms), .val (.ref b1), .val (.int dp), .val (.int z14_0), .val (.ref b1), .val (.ref b1), .unset] [(.ref b1)])) st99 ?_
            refine own_via (S' := T99.setTop (mkF m 290 #[.val (.int p0), .val (.int p1), .val (.int p2), .val (.int p3), .val (.int p4), .val (.int p5), .val (.int kk), .val (.ref d), .val (.ref sc), .val (.ref ms), .val (.ref b1), .val (.int dp), .val (.int z14_0), .val (.ref b1), .val (.ref b1), .val (.ref b1)] [])) (fun t k => XS.astore X99.here hx rfl (hb hby at_288) rfl rfl (l' := #[.val (.int p0), .val (.int p1), .val (.int p2), .val (.int p3), .val (.int p4), .val (.int p5), .val (.int kk), .val (.ref d), .val (.ref sc), .val (.ref ms), .val (.ref b1), .val (.int dp), .val (.int z14_0), .val (.ref b1), .val (.ref b1), .val (.ref b1)]) rfl k) ?_
            refine own_via (S' := T99.setTop (mkF m 292 #[.val (.int p0), .val (.int p1), .val (.int p2), .val (.int p3), .val (.int p4), .val (.int p5), .val (.int kk), .val (.ref d), .val (.ref sc), .val (.ref ms), .val (.ref b1), .val (.int dp), .val (.int z14_0), .val (.ref b1), .val (.ref b1), .val (.ref b1)] [(.ref b1)])) (fun t k => XS.aload X99.here hx rfl (hb hby at_290) rfl rfl k) ?_
            refine own_via (S' := T99.setTop (mkF m 294 #[.val (.int p0), .val (.int p1), .val (.int p2), .val (.int p3), .val (.int p4), .val (.int p5), .val (.int kk), .val (.ref d), .val (.ref sc), .val (.ref ms), .val (.ref b1), .val (.int dp), .val (.int z14_0), .val (.ref b1), .val (.ref b1), .val (.ref b1)] [(.ref b1), (.ref b1)])) (fun t k => XS.aload X99.here hx rfl (hb hby at_292) rfl rfl k) ?_
            refine own_via (S' := T99.setTop (mkF m 297 #[.val (.int p0), .val (.int p1), .val (.int p2), .val (.int p3), .val (.int p4), .val (.int p5), .val (.int kk), .val (.ref d), .val (.ref sc), .val (.ref ms), .val (.ref b1), .val (.int dp), .val (.int z14_0), .val (.ref b1), .val (.ref b1), .val (.ref b1)] [])) (fun t k => Jvm.RoadKit.acmp (g := (mkF m 294 #[.val (.int p0), .val (.int p1), .val (.int p2), .val (.int p3), .val (.int p4), .val (.int p5), .val (.int kk), .val (.ref d), .val (.ref sc), .val (.ref ms), .val (.ref b1), .val (.int dp), .val (.int z14_0), .val (.ref b1), .val (.ref b1), .val (.ref b1)] [(.ref b1), (.ref b1)])) X99 hx rfl rfl rfl (pc0 := 294) (pc' := 297) (same := true) rfl (hb hby at_294) rfl (decide_eq_true rfl) (by decide) (by decide) k) ?_
            refine own_via (S' := T99.setTop (mkF m 299 #[.val (.int p0), .val (.int p1), .val (.int p2), .val (.int p3), .val (.int p4), .val (.int p5), .val (.int kk), .val (.ref d), .val (.ref sc), .val (.ref ms), .val (.ref b1), .val (.int dp), .val (.int z14_0), .val (.ref b1), .val (.ref b1), .val (.ref b1)] [(.ref b1)])) (fun t k => XS.aload X99.here hx rfl (hb hby at_297) rfl rfl k) ?_
            obtain ⟨cq101, kq101, q101a, q101b, q101c⟩ := isOf hZ e99 cx97
            obtain ⟨_, _, ⟨T101, Lp101, kp101, np101⟩, -, X101, ⟨Lc101, hQ101, l101, y101, z101⟩, st101⟩ := X99.virtualBack hx (y := mt10) (z := mt10) hown (mvT hZ (wd84 hw)) (mvT hZ (wd85 hw)) (notFace_of_selects (args := #[]) (mvT hZ (wd87 hw))) (mvT hZ (wd87 hw)) (mvT hZ (wd86 hw)) (by decide) (backOf (W := 0) (own_og0 l Z a0 hw [] b1 T90.heap n0 O93 cx100) hZ (wd88 hw) (wd18 hw) (by decide) (by decide)) q101a q101c (g := (mkF m 299 #[.val (.int p0), .val (.int p1), .val (.int p2), .val (.int p3), .val (.int p4), .val (.int p5), .val (.int kk), .val (.ref d), .val (.ref sc), .val (.ref ms), .val (.ref b1), .val (.int dp), .val (.int z14_0), .val (.ref b1), .val (.ref b1), .val (.ref b1)] [(.ref b1)])) rfl (by rw [hml]; rfl) (Steps.refl _) (argsL := []) (rest := []) (lenOf pd___Lcom_example_object_access_rules_objectaccessrules_Result__5924 rfl) rfl (by show 2 * 0 + _ ≤ _; exact Nat.le_of_eq rfl) (hb hby at_299) (fun _ _ => ⟨rfl, e99, (by decide : 17 + 0 ≤ _), (by decide : 140 + 0 ≤ _)⟩)
            dsimp only [Pt.U, Pt.locs, Pt.cells, Pt.slots] at X101 l101 y101 z101 st101 hQ101
            subst Lp101 kp101 np101
            obtain ⟨rfl, rfl, e101⟩ := hQ101
            try rw [List.append_nil] at X101
            refine own_tr (S' := T101.setTop (mkF m 302 #[.val (.int p0), .val (.int p1), .val (.int p2), .val (.int p3), .val (.int p4), .val (.int p5), .val (.int kk), .val (.ref d), .val (.ref sc), .val (.ref ms), .val (.ref b1), .val (.int dp), .val (.int z14_0), .val (.ref b1), .val (.ref b1), .val (.ref b1)] [(.ref b1)])) st101 ?_
            refine own_via (S' := T101.setTop (mkF m 304 #[.val (.int p0), .val (.int p1), .val (.int p2), .val (.int p3), .val (.int p4), .val (.int p5), .val (.int kk), .val (.ref d), .val (.ref sc), .val (.ref ms), .val (.ref b1), .val (.int dp), .val (.int z14_0), .val (.ref b1), .val (.ref b1), .val (.ref b1)] [(.ref b1), (.ref b1)])) (fun t k => XS.aload X101.here hx rfl (hb hby at_302) rfl rfl k) ?_
            refine own_via (S' := T101.setTop (mkF m 307 #[.val (.int p0), .val (.int p1), .val (.int p2), .val (.int p3), .val (.int p4), .val (.int p5), .val (.int kk), .val (.ref d), .val (.ref sc), .val (.ref ms), .val (.ref b1), .val (.int dp), .val (.int z14_0), .val (.ref b1), .val (.ref b1), .val (.ref b1)] [])) (fun t k => Jvm.RoadKit.acmp (g := (mkF m 304 #[.val (.int p0), .val (.int p1), .val (.int p2), .val (.int p3), .val (.int p4), .val (.int p5), .val (.int kk), .val (.ref d), .val (.ref sc), .val (.ref ms), .val (.ref b1), .val (.int dp), .val (.int z14_0), .val (.ref b1), .val (.ref b1), .val (.ref b1)] [(.ref b1), (.ref b1)])) X101 hx rfl rfl rfl (pc0 := 304) (pc' := 307) (same := true) rfl (hb hby at_304) rfl (decide_eq_true rfl) (by decide) (by decide) k) ?_
            refine own_via (S' := T101.setTop (mkF m 308 #[.val (.int p0), .val (.int p1), .val (.int p2), .val (.int p3), .val (.int p4), .val (.int p5), .val (.int kk), .val (.ref d), .val (.ref sc), .val (.ref ms), .val (.ref b1), .val (.int dp), .val (.int z14_0), .val (.ref b1), .val (.ref b1), .val (.ref b1)] [(.int (1 : Int32))])) (fun t k => XS.iconst X101.here hx rfl (hb hby at_307) k) ?_
            refine own_via (S' := T101.setTop (mkF m 312 #[.val (.int p0), .val (.int p1), .val (.int p2), .val (.int p3), .val (.int p4), .val (.int p5), .val (.int kk), .val (.ref d), .val (.ref sc), .val (.ref ms), .val (.ref b1), .val (.int dp), .val (.int z14_0), .val (.ref b1), .val (.ref b1), .val (.ref b1)] [(.int (1 : Int32))])) (fun t k => XS.goto X101.here hx rfl (pc0 := 308) (pc' := 312) rfl (hb hby at_308) (by decide) (by decide) k) ?_
            have RTR92 : CHr Z own_EL s.vm h0 T101.vm T90.heap := R92.trans (CHv.at X101 hZ hEL R92.1)
            have RXR92 : CHr Z own_EL s.vm s.heap T101.vm T101.heap := by rw [hh, e101]; exact RTR92
            refine own_retW (Q := Q_own_law Z p0 p1 p2 p3 p4 p5 zc wP wD wN wI wO wM wG wY h0 n0) (C := room_1.cells) (N := room_1.slots) X101 hSn5 (by rw [e101]; omega) (v := some (.int (1 : Int32))) (fun h => by rw [hret] at h; cases h) hsync ?_ RXR92 (by decide) (by decide) (fun fs hr => retN X101 hx (t := .boolean) hret (by simp) (hb hby at_312) hr)
            show Q_own_law Z p0 p1 p2 p3 p4 p5 zc wP wD wN wI wO wM wG wY h0 n0 _ T101.vm T101.heap _
            rw [e101]
            exact ⟨rfl, N90⟩
          · -- no
            refine own_via (S' := T95.setTop (mkF m 259 #[.val (.int p0), .val (.int p1), .val (.int p2), .val (.int p3), .val (.int p4), .val (.int p5), .val (.int kk), .val (.ref d), .val (.ref sc), .val (.ref ms), .val (.ref b1), .val (.int dp), .val (.int z14_0), .val (.ref b1), .val (.ref b1), .unset] [])) (fun t k => XS.ifNo X95.here hx rfl (hb hby at_256) rfl ((if0 _ _).trans (feq hc256_98).1) k) ?_
            refine own_via (S' := T95.setTop (mkF m 261 #[.val (.int p0), .val (.int p1), .val (.int p2), .val (.int p3), .val (.int p4), .val (.int p5), .val (.int kk), .val (.ref d), .val (.ref sc), .val (.ref ms), .val (.ref b1), .val (.int dp), .val (.int z14_0), .val (.ref b1), .val (.ref b1), .unset] [(.ref b1)])) (fun t k => XS.aload X95.here hx rfl (hb hby at_259) rfl rfl k) ?_
            have cx103 : Fld Z T90.heap b1 "com/example/object_access_rules/objectaccessrules/Result" "step" "Ljava/lang/String;" .null := (((f5_3.keep K34q nin0).keep K63q nin0).keep K90q nin0)
            have cx104 : Fld Z T90.heap b1 "com/example/object_access_rules/objectaccessrules/Result" "below" "Lcom/example/object_access_rules/objectaccessrules/Result;" .null := (((f5_4.keep K34q nin0).keep K63q nin0).keep K90q nin0)
            have hk102 : T5.heap.size ≤ T95.heap.size := by rw [e95]; omega
            obtain ⟨cq102, kq102, q102a, q102b, q102c⟩ := isOf hZ e95 cx97
            obtain ⟨_, _, ⟨T102, Lp102, kp102, np102⟩, -, X102, hS102, hgr102, ⟨Lc102, ⟨hQ102, R102q⟩, l102, y102, z102⟩, st102⟩ := X95.virtualBackS hx (y := mt9) (z := mt9) hown (mvT hZ (wd89 hw)) (mvT hZ (wd90 hw)) (notFace_of_selects (args := #[]) (mvT hZ (wd92 hw))) (mvT hZ (wd92 hw)) (mvT hZ (wd91 hw)) (by decide) (own_backW (SL := []) (W := 0) (own_adN l Z a0 hw [] b1 wI wO wD T90.heap n0 O93 zf_S_com_example_object_access_rules_objectaccessrules_Decision_INDETERMINATE zf_S_com_example_object_access_rules_objectaccessrules_StatusCode_OK zf_S_com_example_object_access_rules_objectaccessrules_Decision_DENY zf_E_wD zf_E_wO cx103 cx104 hD.2.2.2.2.1) hZ (wd93 hw) (wd18 hw) (by decide) (by decide) hEL R92.1 all0) q102a q102c (g := (mkF m 261 #[.val (.int p0), .val (.int p1), .val (.int p2), .val (.int p3), .val (.int p4), .val (.int p5), .val (.int kk), .val (.ref d), .val (.ref sc), .val (.ref ms), .val (.ref b1), .val (.int dp), .val (.int z14_0), .val (.ref b1), .val (.ref b1), .unset] [(.ref b1)])) rfl (by rw [hml]; rfl) (Steps.refl _) (argsL := []) (rest := []) (lenOf pd___Lcom_example_object_access_rules_objectaccessrules_Result__5924 rfl) rfl (by show 2 * 0 + _ ≤ _; exact Nat.le_of_eq rfl) (hb hby at_261) (fun _ _ => ⟨rfl, e95, (by decide : 17 + 9 ≤ _), (by decide : 140 + 105 ≤ _)⟩)
            dsimp only [Pt.U, Pt.locs, Pt.cells, Pt.slots] at X102 l102 y102 z102 st102 hQ102 hS102 hgr102 R102q
            subst Lp102 kp102 np102
            obtain ⟨X102, hSn102, hZ, hown⟩ := rebS hSn5 hk102 X102 hS102 hgr102 hZ hown
            obtain ⟨b102, rfl, N102q, K102q, f102_0, f102_1, f102_2⟩ := hQ102
            have N102 := Fr.app N90 N102q
            have sz105 : T90.heap.size ≤ T102.heap.size := K102q.1
            have R106 : CHr Z own_EL s.vm h0 T102.vm T102.heap := R92.trans R102q
            have O107 : Old Z n0 T102.heap := O93.keep K102q all0
            have lt108_b102 : T102.heap.size > b102 := f102_0.lt
            have lt109_b102 : T102.heap.size > b102 := f102_1.lt
            have lt110_b102 : T102.heap.size > b102 := f102_2.lt
            refine own_tr (S' := T102.setTop (mkF m 264 #[.val (.int p0), .val (.int p1), .val (.int p2), .val (.int p3), .val (.int p4), .val (.int p5), .val (.int kk), .val (.ref d), .val (.ref sc), .val (.ref ms), .val (.ref b1), .val (.int dp), .val (.int z14_0), .val (.ref b1), .val (.ref b1), .unset] [(.ref b102)])) st102 ?_
            refine own_via (S' := T102.setTop (mkF m 266 #[.val (.int p0), .val (.int p1), .val (.int p2), .val (.int p3), .val (.int p4), .val (.int p5), .val (.int kk), .val (.ref d), .val (.ref sc), .val (.ref ms), .val (.ref b1), .val (.int dp), .val (.int z14_0), .val (.ref b102), .val (.ref b1), .unset] [])) (fun t k => XS.astore X102.here hx rfl (hb hby at_264) rfl rfl (l' := #[.val (.int p0), .val (.int p1), .val (.int p2), .val (.int p3), .val (.int p4), .val (.int p5), .val (.int kk), .val (.ref d), .val (.ref sc), .val (.ref ms), .val (.ref b1), .val (.int dp), .val (.int z14_0), .val (.ref b102), .val (.ref b1), .unset]) rfl k) ?_
            refine own_via (S' := T102.setTop (mkF m 268 #[.val (.int p0), .val (.int p1), .val (.int p2), .val (.int p3), .val (.int p4), .val (.int p5), .val (.int kk), .val (.ref d), .val (.ref sc), .val (.ref ms), .val (.ref b1), .val (.int dp), .val (.int z14_0), .val (.ref b102), .val (.ref b1), .unset] [(.int dp)])) (fun t k => XS.iload X102.here hx rfl (hb hby at_266) rfl k) ?_
            have hc268_111 : ¬ (dp = (0 : Int32)) := fun q => hc185_16 (by rw [q]; decide)
            refine own_via (S' := T102.setTop (mkF m 271 #[.val (.int p0), .val (.int p1), .val (.int p2), .val (.int p3), .val (.int p4), .val (.int p5), .val (.int kk), .val (.ref d), .val (.ref sc), .val (.ref ms), .val (.ref b1), .val (.int dp), .val (.int z14_0), .val (.ref b102), .val (.ref b1), .unset] [])) (fun t k => XS.ifNo X102.here hx rfl (hb hby at_268) rfl ((if0 _ _).trans (feq hc268_111).1) k) ?_
            refine own_via (S' := T102.setTop (mkF m 273 #[.val (.int p0), .val (.int p1), .val (.int p2), .val (.int p3), .val (.int p4), .val (.int p5), .val (.int kk), .val (.ref d), .val (.ref sc), .val (.ref ms), .val (.ref b1), .val (.int dp), .val (.int z14_0), .val (.ref b102), .val (.ref b1), .unset] [(.ref d)])) (fun t k => XS.aload X102.here hx rfl (hb hby at_271) rfl rfl k) ?_
            have cx112 : Sta Z T102.heap "com/example/object_access_rules/objectaccessrules/Decision" "NOT_APPLICABLE" "Lcom/example/object_access_rules/objectaccessrules/Decision;" (.ref wN) := zf_S_com_example_object_access_rules_objectaccessrules_Decision_NOT_APPLICABLE.ext O107.2
            obtain ⟨T113, X113, e113, st113⟩ := getS2 X102 hx hZ hown (host := "") (Or.inl (wd97 hw)) Via.refl rfl cx112 (g := (mkF m 273 #[.val (.int p0), .val (.int p1), .val (.int p2), .val (.int p3), .val (.int p4), .val (.int p5), .val (.int kk), .val (.ref d), .val (.ref sc), .val (.ref ms), .val (.ref b1), .val (.int dp), .val (.int z14_0), .val (.ref b102), .val (.ref b1), .unset] [(.ref d)])) rfl (hb hby at_273)
            refine own_via (S' := T113.setTop (mkF m 276 #[.val (.int p0), .val (.int p1), .val (.int p2), .val (.int p3), .val (.int p4), .val (.int p5), .val (.int kk), .val (.ref d), .val (.ref sc), .val (.ref ms), .val (.ref b1), .val (.int dp), .val (.int z14_0), .val (.ref b102), .val (.ref b1), .unset] [(.ref wN), (.ref d)])) st113 ?_
            refine own_via (S' := T113.setTop (mkF m 279 #[.val (.int p0), .val (.int p1), .val (.int p2), .val (.int p3), .val (.int p4), .val (.int p5), .val (.int kk), .val (.ref d), .val (.ref sc), .val (.ref ms), .val (.ref b1), .val (.int dp), .val (.int z14_0), .val (.ref b102), .val (.ref b1), .unset] [])) (fun t k => Jvm.RoadKit.acmp (g := (mkF m 276 #[.val (.int p0), .val (.int p1), .val (.int p2), .val (.int p3), .val (.int p4), .val (.int p5), .val (.int kk), .val (.ref d), .val (.ref sc), .val (.ref ms), .val (.ref b1), .val (.int dp), .val (.int z14_0), .val (.ref b102), .val (.ref b1), .unset] [(.ref wN), (.ref d)])) X113 hx rfl rfl rfl (pc0 := 276) (pc' := 279) (same := true) rfl (hb hby at_276) rfl (decide_eq_true (congrArg Value.ref hs199_39)) (by decide) (by decide) k) ?_
            refine own_via (S' := T113.setTop (mkF m 281 #[.val (.int p0), .val (.int p1), .val (.int p2), .val (.int p3), .val (.int p4), .val (.int p5), .val (.int kk), .val (.ref d), .val (.ref sc), .val (.ref ms), .val (.ref b1), .val (.int dp), .val (.int z14_0), .val (.ref b102), .val (.ref b1), .unset] [(.ref b102)])) (fun t k => XS.aload X113.here hx rfl (hb hby at_279) rfl rfl k) ?_
            refine own_via (S' := T113.setTop (mkF m 283 #[.val (.int p0), .val (.int p1), .val (.int p2), .val (.int p3), .val (.int p4), .val (.int p5), .val (.int kk), .val (.ref d), .val (.ref sc), .val (.ref ms), .val (.ref b1), .val (.int dp), .val (.int z14_0), .val (.ref b102), .val (.ref b102), .unset] [])) (fun t k => XS.astore X113.here hx rfl (hb hby at_281) rfl rfl (l' := #[.val (.int p0), .val (.int p1), .val (.int p2), .val (.int p3), .val (.int p4), .val (.int p5), .val (.int kk), .val (.ref d), .val (.ref sc), .val (.ref ms), .val (.ref b1), .val (.int dp), .val (.int z14_0), .val (.ref b102), .val (.ref b102), .unset]) rfl k) ?_
            refine own_via (S' := T113.setTop (mkF m 285 #[.val (.int p0), .val (.int p1), .val (.int p2), .val (.int p3), .val (.int p4), .val (.int p5), .val (.int kk), .val (.ref d), .val (.ref sc), .val (.ref ms), .val (.ref b1), .val (.int dp), .val (.int z14_0), .val (.ref b102), .val (.ref b102), .unset] [(.ref b102)])) (fun t k => XS.aload X113.here hx rfl (hb hby at_283) rfl rfl k) ?_
            obtain ⟨cq114, kq114, q114a, q114b, q114c⟩ := isOf hZ e113 f102_0
            obtain ⟨_, _, ⟨T114, Lp114, kp114, np114⟩, -, X114, ⟨Lc114, hQ114, l114, y114, z114⟩, st114⟩ := X113.virtualBack hx (y := mt10) (z := mt10) hown (mvT hZ (wd84 hw)) (mvT hZ (wd85 hw)) (notFace_of_selects (args := #[]) (mvT hZ (wd87 hw))) (mvT hZ (wd87 hw)) (mvT hZ (wd86 hw)) (by decide) (backOf (W := 0) (own_og0 l Z a0 hw [] b102 T102.heap n0 O107 f102_2) hZ (wd88 hw) (wd18 hw) (by decide) (by decide)) q114a q114c (g := (mkF m 285 #[.val (.int p0), .val (.int p1), .val (.int p2), .val (.int p3), .val (.int p4), .val (.int p5), .val (.int kk), .val (.ref d), .val (.ref sc), .val (.ref ms), .val (.ref b1), .val (.int dp), .val (.int z14_0), .val (.ref b102), .val (.ref b102), .unset] [(.ref b102)])) rfl (by rw [hml]; rfl) (Steps.refl _) (argsL := []) (rest := []) (lenOf pd___Lcom_example_object_access_rules_objectaccessrules_Result__5924 rfl) rfl (by show 2 * 0 + _ ≤ _; exact Nat.le_of_eq rfl) (hb hby at_285) (fun _ _ => ⟨rfl, e113, (by decide : 26 + 0 ≤ _), (by decide : 245 + 0 ≤ _)⟩)
            dsimp only [Pt.U, Pt.locs, Pt.cells, Pt.slots] at X114 l114 y114 z114 st114 hQ114
            subst Lp114 kp114 np114
            obtain ⟨rfl, rfl, e114⟩ := hQ114
            try rw [List.append_nil] at X114
            refine own_tr (S' := T114.setTop (mkF m 288 #[.val (.int p0), .val (.int p1), .val (.int p2), .val (.int p3), .val (.int p4), .val (.int p5), .val (.int kk), .val (.ref d), .val (.ref sc), .val (.ref ms), .val (.ref b1), .val (.int dp), .val (.int z14_0), .val (.ref b102), .val (.ref b102), .unset] [(.ref b102)])) st114 ?_
            refine own_via (S' := T114.setTop (mkF m 290 #[.val (.int p0), .val (.int p1), .val (.int p2), .val (.int p3), .val (.int p4), .val (.int p5), .val (.int kk), .val (.ref d), .val (.ref sc), .val (.ref ms), .val (.ref b1), .val (.int dp), .val (.int z14_0), .val (.ref b102), .val (.ref b102), .val (.ref b102)] [])) (fun t k => XS.astore X114.here hx rfl (hb hby at_288) rfl rfl (l' := #[.val (.int p0), .val (.int p1), .val (.int p2), .val (.int p3), .val (.int p4), .val (.int p5), .val (.int kk), .val (.ref d), .val (.ref sc), .val (.ref ms), .val (.ref b1), .val (.int dp), .val (.int z14_0), .val (.ref b102), .val (.ref b102), .val (.ref b102)]) rfl k) ?_
            refine own_via (S' := T114.setTop (mkF m 292 #[.val (.int p0), .val (.int p1), .val (.int p2), .val (.int p3), .val (.int p4), .val (.int p5), .val (.int kk), .val (.ref d), .val (.ref sc), .val (.ref ms), .val (.ref b1), .val (.int dp), .val (.int z14_0), .val (.ref b102), .val (.ref b102), .val (.ref b102)] [(.ref b102)])) (fun t k => XS.aload X114.here hx rfl (hb hby at_290) rfl rfl k) ?_
            refine own_via (S' := T114.setTop (mkF m 294 #[.val (.int p0), .val (.int p1), .val (.int p2), .val (.int p3), .val (.int p4), .val (.int p5), .val (.int kk), .val (.ref d), .val (.ref sc), .val (.ref ms), .val (.ref b1), .val (.int dp), .val (.int z14_0), .val (.ref b102), .val (.ref b102), .val (.ref b102)] [(.ref b102), (.ref b102)])) (fun t k => XS.aload X114.here hx rfl (hb hby at_292) rfl rfl k) ?_
            refine own_via (S' := T114.setTop (mkF m 297 #[.val (.int p0), .val (.int p1), .val (.int p2), .val (.int p3), .val (.int p4), .val (.int p5), .val (.int kk), .val (.ref d), .val (.ref sc), .val (.ref ms), .val (.ref b1), .val (.int dp), .val (.int z14_0), .val (.ref b102), .val (.ref b102), .val (.ref b102)] [])) (fun t k => Jvm.RoadKit.acmp (g := (mkF m 294 #[.val (.int p0), .val (.int p1), .val (.int p2), .val (.int p3), .val (.int p4), .val (.int p5), .val (.int kk), .val (.ref d), .val (.ref sc), .val (.ref ms), .val (.ref b1), .val (.int dp), .val (.int z14_0), .val (.ref b102), .val (.ref b102), .val (.ref b102)] [(.ref b102), (.ref b102)])) X114 hx rfl rfl rfl (pc0 := 294) (pc' := 297) (same := true) rfl (hb hby at_294) rfl (decide_eq_true rfl) (by decide) (by decide) k) ?_
            refine own_via (S' := T114.setTop (mkF m 299 #[.val (.int p0), .val (.int p1), .val (.int p2), .val (.int p3), .val (.int p4), .val (.int p5), .val (.int kk), .val (.ref d), .val (.ref sc), .val (.ref ms), .val (.ref b1), .val (.int dp), .val (.int z14_0), .val (.ref b102), .val (.ref b102), .val (.ref b102)] [(.ref b102)])) (fun t k => XS.aload X114.here hx rfl (hb hby at_297) rfl rfl k) ?_
            obtain ⟨cq115, kq115, q115a, q115b, q115c⟩ := isOf hZ e114 f102_0
            obtain ⟨_, _, ⟨T115, Lp115, kp115, np115⟩, -, X115, ⟨Lc115, hQ115, l115, y115, z115⟩, st115⟩ := X114.virtualBack hx (y := mt10) (z := mt10) hown (mvT hZ (wd84 hw)) (mvT hZ (wd85 hw)) (notFace_of_selects (args := #[]) (mvT hZ (wd87 hw))) (mvT hZ (wd87 hw)) (mvT hZ (wd86 hw)) (by decide) (backOf (W := 0) (own_og0 l Z a0 hw [] b102 T102.heap n0 O107 f102_2) hZ (wd88 hw) (wd18 hw) (by decide) (by decide)) q115a q115c (g := (mkF m 299 #[.val (.int p0), .val (.int p1), .val (.int p2), .val (.int p3), .val (.int p4), .val (.int p5), .val (.int kk), .val (.ref d), .val (.ref sc), .val (.ref ms), .val (.ref b1), .val (.int dp), .val (.int z14_0), .val (.ref b102), .val (.ref b102), .val (.ref b102)] [(.ref b102)])) rfl (by rw [hml]; rfl) (Steps.refl _) (argsL := []) (rest := []) (lenOf pd___Lcom_example_object_access_rules_objectaccessrules_Result__5924 rfl) rfl (by show 2 * 0 + _ ≤ _; exact Nat.le_of_eq rfl) (hb hby at_299) (fun _ _ => ⟨rfl, e114, (by decide : 26 + 0 ≤ _), (by decide : 245 + 0 ≤ _)⟩)
            dsimp only [Pt.U, Pt.locs, Pt.cells, Pt.slots] at X115 l115 y115 z115 st115 hQ115
            subst Lp115 kp115 np115
            obtain ⟨rfl, rfl, e115⟩ := hQ115
            try rw [List.append_nil] at X115
            refine own_tr (S' := T115.setTop (mkF m 302 #[.val (.int p0), .val (.int p1), .val (.int p2), .val (.int p3), .val (.int p4), .val (.int p5), .val (.int kk), .val (.ref d), .val (.ref sc), .val (.ref ms), .val (.ref b1), .val (.int dp), .val (.int z14_0), .val (.ref b102), .val (.ref b102), .val (.ref b102)] [(.ref b102)])) st115 ?_
            refine own_via (S' := T115.setTop (mkF m 304 #[.val (.int p0), .val (.int p1), .val (.int p2), .val (.int p3), .val (.int p4), .val (.int p5), .val (.int kk), .val (.ref d), .val (.ref sc), .val (.ref ms), .val (.ref b1), .val (.int dp), .val (.int z14_0), .val (.ref b102), .val (.ref b102), .val (.ref b102)] [(.ref b102), (.ref b102)])) (fun t k => XS.aload X115.here hx rfl (hb hby at_302) rfl rfl k) ?_
            refine own_via (S' := T115.setTop (mkF m 307 #[.val (.int p0), .val (.int p1), .val (.int p2), .val (.int p3), .val (.int p4), .val (.int p5), .val (.int kk), .val (.ref d), .val (.ref sc), .val (.ref ms), .val (.ref b1), .val (.int dp), .val (.int z14_0), .val (.ref b102), .val (.ref b102), .val (.ref b102)] [])) (fun t k => Jvm.RoadKit.acmp (g := (mkF m 304 #[.val (.int p0), .val (.int p1), .val (.int p2), .val (.int p3), .val (.int p4), .val (.int p5), .val (.int kk), .val (.ref d), .val (.ref sc), .val (.ref ms), .val (.ref b1), .val (.int dp), .val (.int z14_0), .val (.ref b102), .val (.ref b102), .val (.ref b102)] [(.ref b102), (.ref b102)])) X115 hx rfl rfl rfl (pc0 := 304) (pc' := 307) (same := true) rfl (hb hby at_304) rfl (decide_eq_true rfl) (by decide) (by decide) k) ?_
            refine own_via (S' := T115.setTop (mkF m 308 #[.val (.int p0), .val (.int p1), .val (.int p2), .val (.int p3), .val (.int p4), .val (.int p5), .val (.int kk), .val (.ref d), .val (.ref sc), .val (.ref ms), .val (.ref b1), .val (.int dp), .val (.int z14_0), .val (.ref b102), .val (.ref b102), .val (.ref b102)] [(.int (1 : Int32))])) (fun t k => XS.iconst X115.here hx rfl (hb hby at_307) k) ?_
            refine own_via (S' := T115.setTop (mkF m 312 #[.val (.int p0), .val (.int p1), .val (.int p2), .val (.int p3), .val (.int p4), .val (.int p5), .val (.int kk), .val (.ref d), .val (.ref sc), .val (.ref ms), .val (.ref b1), .val (.int dp), .val (.int z14_0), .val (.ref b102), .val (.ref b102), .val (.ref b102)] [(.int (1 : Int32))])) (fun t k => XS.goto X115.here hx rfl (pc0 := 308) (pc' := 312) rfl (hb hby at_308) (by decide) (by decide) k) ?_
            have RTR106 : CHr Z own_EL s.vm h0 T115.vm T102.heap := R106.trans (CHv.at X115 hZ hEL R106.1)
            have RXR106 : CHr Z own_EL s.vm s.heap T115.vm T115.heap := by rw [hh, e115]; exact RTR106
            refine own_retW (Q := Q_own_law Z p0 p1 p2 p3 p4 p5 zc wP wD wN wI wO wM wG wY h0 n0) (C := room_1.cells) (N := room_1.slots) X115 hSn102 (by rw [e115]; omega) (v := some (.int (1 : Int32))) (fun h => by rw [hret] at h; cases h) hsync ?_ RXR106 (by decide) (by decide) (fun fs hr => retN X115 hx (t := .boolean) hret (by simp) (hb hby at_312) hr)
            show Q_own_law Z p0 p1 p2 p3 p4 p5 zc wP wD wN wI wO wM wG wY h0 n0 _ T115.vm T115.heap _
            rw [e115]
            exact ⟨rfl, N102⟩
    · -- split
      have cx117 : Exa Z T34.heap b1 "com/example/object_access_rules/objectaccessrules/Result" := ((A1.keep K5q).keep K34q)
      have cx118 : Fld Z T34.heap b1 "com/example/object_access_rules/objectaccessrules/Result" "decision" "Lcom/example/object_access_rules/objectaccessrules/Decision;" (.ref d) := (f5_0.keep K34q nin0)
      have cx119 : Fld Z T34.heap b1 "com/example/object_access_rules/objectaccessrules/Result" "status" "Lcom/example/object_access_rules/objectaccessrules/StatusCode;" (.ref sc) := (f5_1.keep K34q nin0)
      have cx120 : Fld Z T34.heap b1 "com/example/object_access_rules/objectaccessrules/Result" "message" "Ljava/lang/String;" (.ref ms) := (f5_2.keep K34q nin0)
      have cx121 : Exa Z T34.heap d "com/example/object_access_rules/objectaccessrules/Decision" := ((cx6.keep K5q).keep K34q)
      have cx122 : Exa Z T34.heap sc "com/example/object_access_rules/objectaccessrules/StatusCode" := ((cx7.keep K5q).keep K34q)
      have cx123 : Exa Z T34.heap ms "java/lang/String" := ((cx8.keep K5q).keep K34q)
      have ne_ms_b1 : ms ≠ b1 := by first | exact Exa.ne cx123 cx117 (by decide) | exact Nat.ne_of_lt (by omega) | exact Nat.ne_of_gt (by omega)
      have cx124 : Fld Z T34.heap ms "java/lang/String" "value" "[B" (.ref tm) := ((cx9.keep K5q (ninS ne_ms_b1 nin0)).keep K34q nin0)
      have ne_tm_b1 : tm ≠ b1 := by first | exact (Exa.neArv A1 cx10 (wd17 hw)).symm | exact Nat.ne_of_lt (by omega) | exact Nat.ne_of_gt (by omega)
      have cx125 : Arv Z T34.heap tm km .byte zl vsm (.int (0 : Int32)) := ((cx10.keep K5q (ninS ne_tm_b1 nin0)).keep K34q nin0)
      have hk116 : T5.heap.size ≤ T34.heap.size := by omega
      obtain ⟨cq116, kq116, q116a, q116b, q116c⟩ := isOf hZ rfl cx117
      obtain ⟨_, _, ⟨T116, Lp116, kp116, np116⟩, -, X116, hS116, hgr116, ⟨Lc116, ⟨hQ116, R116q⟩, l116, y116, z116⟩, st116⟩ := X34.virtualBackS hx (y := mt8) (z := mt8) hown (mvT hZ (wd76 hw)) (mvT hZ (wd77 hw)) (notFace_of_selects (args := #[]) (mvT hZ (wd79 hw))) (mvT hZ (wd79 hw)) (mvT hZ (wd78 hw)) (by decide) (own_backW (SL := []) (W := 0) (own_thrX l Z a0 hw [] b1 b34 d sc ms tm km zl vsm wI wO wN T34.heap n0 O37 zf_S_com_example_object_access_rules_objectaccessrules_Decision_INDETERMINATE zf_S_com_example_object_access_rules_objectaccessrules_StatusCode_OK zf_S_com_example_object_access_rules_objectaccessrules_Decision_NOT_APPLICABLE cx117 cx118 cx119 cx120 cx121 cx122 cx123 cx124 cx125 hs199_39 hcons) hZ (wd80 hw) (wd18 hw) (by decide) (by decide) hEL R36.1 all0) q116a q116c (g := (mkF m 199 #[.val (.int p0), .val (.int p1), .val (.int p2), .val (.int p3), .val (.int p4), .val (.int p5), .val (.int kk), .val (.ref d), .val (.ref sc), .val (.ref ms), .val (.ref b1), .val (.int dp), .val (.int z14_0), .val (.ref b1), .unset, .unset] [(.ref b34), (.ref b1)])) rfl (by rw [hml]; rfl) (Steps.refl _) (argsL := [(.ref b34)]) (rest := []) (lenOf pd__Ljava_lang_String__Lcom_example_object_access_rules_objectaccessrules_Result__7620 rfl) rfl (by show 2 * 0 + _ ≤ _; exact Nat.le_of_eq rfl) (hb hby at_199) (fun _ _ => ⟨rfl, rfl, (by decide : 13 + 7 ≤ _), (by decide : 130 + 101 ≤ _)⟩)
      dsimp only [Pt.U, Pt.locs, Pt.cells, Pt.slots] at X116 l116 y116 z116 st116 hQ116 hS116 hgr116 R116q
      subst Lp116 kp116 np116
      obtain ⟨X116, hSn116, hZ, hown⟩ := rebS hSn5 hk116 X116 hS116 hgr116 hZ hown
      obtain ⟨b116, rfl, N116q, K116q, f116_0, f116_1, f116_2, f116_3, f116_4, f116_5⟩ := hQ116
      have N116 := Fr.app N34 N116q
      have sz126 : T34.heap.size ≤ T116.heap.size := K116q.1
      have R127 : CHr Z own_EL s.vm h0 T116.vm T116.heap := R36.trans R116q
      have O128 : Old Z n0 T116.heap := O37.keep K116q all0
      have lt129_b116 : T116.heap.size > b116 := f116_0.lt
      have lt130_b116 : T116.heap.size > b116 := f116_1.lt
      have lt131_b116 : T116.heap.size > b116 := f116_2.lt
      have lt132_b116 : T116.heap.size > b116 := f116_3.lt
      have lt133_b116 : T116.heap.size > b116 := f116_4.lt
      have lt134_b116 : T116.heap.size > b116 := f116_5.lt
      refine own_tr (S' := T116.setTop (mkF m 202 #[.val (.int p0), .val (.int p1), .val (.int p2), .val (.int p3), .val (.int p4), .val (.int p5), .val (.int kk), .val (.ref d), .val (.ref sc), .val (.ref ms), .val (.ref b1), .val (.int dp), .val (.int z14_0), .val (.ref b1), .unset, .unset] [(.ref b116)])) st116 ?_
      refine own_via (S' := T116.setTop (mkF m 204 #[.val (.int p0), .val (.int p1), .val (.int p2), .val (.int p3), .val (.int p4), .val (.int p5), .val (.int kk), .val (.ref d), .val (.ref sc), .val (.ref ms), .val (.ref b1), .val (.int dp), .val (.int z14_0), .val (.ref b116), .unset, .unset] [])) (fun t k => XS.astore X116.here hx rfl (hb hby at_202) rfl rfl (l' := #[.val (.int p0), .val (.int p1), .val (.int p2), .val (.int p3), .val (.int p4), .val (.int p5), .val (.int kk), .val (.ref d), .val (.ref sc), .val (.ref ms), .val (.ref b1), .val (.int dp), .val (.int z14_0), .val (.ref b116), .unset, .unset]) rfl k) ?_
      refine own_via (S' := T116.setTop (mkF m 206 #[.val (.int p0), .val (.int p1), .val (.int p2), .val (.int p3), .val (.int p4), .val (.int p5), .val (.int kk), .val (.ref d), .val (.ref sc), .val (.ref ms), .val (.ref b1), .val (.int dp), .val (.int z14_0), .val (.ref b116), .unset, .unset] [(.int dp)])) (fun t k => XS.iload X116.here hx rfl (hb hby at_204) rfl k) ?_
      refine own_via (S' := T116.setTop (mkF m 207 #[.val (.int p0), .val (.int p1), .val (.int p2), .val (.int p3), .val (.int p4), .val (.int p5), .val (.int kk), .val (.ref d), .val (.ref sc), .val (.ref ms), .val (.ref b1), .val (.int dp), .val (.int z14_0), .val (.ref b116), .unset, .unset] [(.int (2 : Int32)), (.int dp)])) (fun t k => XS.iconst X116.here hx rfl (hb hby at_206) k) ?_
      by_cases hc207_135 : dp < (2 : Int32)
      · -- yes
        refine own_via (S' := T116.setTop (mkF m 227 #[.val (.int p0), .val (.int p1), .val (.int p2), .val (.int p3), .val (.int p4), .val (.int p5), .val (.int kk), .val (.ref d), .val (.ref sc), .val (.ref ms), .val (.ref b1), .val (.int dp), .val (.int z14_0), .val (.ref b116), .unset, .unset] [])) (fun t k => XS.icmpYes X116.here hx rfl (pc0 := 207) (pc' := 227) rfl (hb hby at_207) rfl (tlt hc207_135).1 (by decide) (by decide) k) ?_
        refine own_via (S' := T116.setTop (mkF m 229 #[.val (.int p0), .val (.int p1), .val (.int p2), .val (.int p3), .val (.int p4), .val (.int p5), .val (.int kk), .val (.ref d), .val (.ref sc), .val (.ref ms), .val (.ref b1), .val (.int dp), .val (.int z14_0), .val (.ref b116), .unset, .unset] [(.int dp)])) (fun t k => XS.iload X116.here hx rfl (hb hby at_227) rfl k) ?_
        refine own_via (S' := T116.setTop (mkF m 230 #[.val (.int p0), .val (.int p1), .val (.int p2), .val (.int p3), .val (.int p4), .val (.int p5), .val (.int kk), .val (.ref d), .val (.ref sc), .val (.ref ms), .val (.ref b1), .val (.int dp), .val (.int z14_0), .val (.ref b116), .unset, .unset] [(.int (3 : Int32)), (.int dp)])) (fun t k => XS.iconst X116.here hx rfl (hb hby at_229) k) ?_
        have hc230_136 : dp < (3 : Int32) := own_ltt hc207_135 (by decide)
        refine own_via (S' := T116.setTop (mkF m 250 #[.val (.int p0), .val (.int p1), .val (.int p2), .val (.int p3), .val (.int p4), .val (.int p5), .val (.int kk), .val (.ref d), .val (.ref sc), .val (.ref ms), .val (.ref b1), .val (.int dp), .val (.int z14_0), .val (.ref b116), .unset, .unset] [])) (fun t k => XS.icmpYes X116.here hx rfl (pc0 := 230) (pc' := 250) rfl (hb hby at_230) rfl (tlt hc230_136).1 (by decide) (by decide) k) ?_
        refine own_via (S' := T116.setTop (mkF m 252 #[.val (.int p0), .val (.int p1), .val (.int p2), .val (.int p3), .val (.int p4), .val (.int p5), .val (.int kk), .val (.ref d), .val (.ref sc), .val (.ref ms), .val (.ref b1), .val (.int dp), .val (.int z14_0), .val (.ref b116), .unset, .unset] [(.ref b1)])) (fun t k => XS.aload X116.here hx rfl (hb hby at_250) rfl rfl k) ?_
        refine own_via (S' := T116.setTop (mkF m 254 #[.val (.int p0), .val (.int p1), .val (.int p2), .val (.int p3), .val (.int p4), .val (.int p5), .val (.int kk), .val (.ref d), .val (.ref sc), .val (.ref ms), .val (.ref b1), .val (.int dp), .val (.int z14_0), .val (.ref b116), .val (.ref b1), .unset] [])) (fun t k => XS.astore X116.here hx rfl (hb hby at_252) rfl rfl (l' := #[.val (.int p0), .val (.int p1), .val (.int p2), .val (.int p3), .val (.int p4), .val (.int p5), .val (.int kk), .val (.ref d), .val (.ref sc), .val (.ref ms), .val (.ref b1), .val (.int dp), .val (.int z14_0), .val (.ref b116), .val (.ref b1), .unset]) rfl k) ?_
        refine own_via (S' := T116.setTop (mkF m 256 #[.val (.int p0), .val (.int p1), .val (.int p2), .val (.int p3), .val (.int p4), .val (.int p5), .val (.int kk), .val (.ref d), .val (.ref sc), .val (.ref ms), .val (.ref b1), .val (.int dp), .val (.int z14_0), .val (.ref b116), .val (.ref b1), .unset] [(.int z14_0)])) (fun t k => XS.iload X116.here hx rfl (hb hby at_254) rfl k) ?_
        by_cases hc256_137 : z14_0 = (0 : Int32)
        · -- yes
          refine own_via (S' := T116.setTop (mkF m 283 #[.val (.int p0), .val (.int p1), .val (.int p2), .val (.int p3), .val (.int p4), .val (.int p5), .val (.int kk), .val (.ref d), .val (.ref sc), .val (.ref ms), .val (.ref b1), .val (.int dp), .val (.int z14_0), .val (.ref b116), .val (.ref b1), .unset] [])) (fun t k => XS.ifYes X116.here hx rfl (pc0 := 256) (pc' := 283) rfl (hb hby at_256) rfl ((if0 _ _).trans (teq hc256_137).1) (by decide) (by decide) k) ?_
          refine own_via (S' := T116.setTop (mkF m 285 #[.val (.int p0), .val (.int p1), .val (.int p2), .val (.int p3), .val (.int p4), .val (.int p5), .val (.int kk), .val (.ref d), .val (.ref sc), .val (.ref ms), .val (.ref b1), .val (.int dp), .val (.int z14_0), .val (.ref b116), .val (.ref b1), .unset] [(.ref b116)])) (fun t k => XS.aload X116.here hx rfl (hb hby at_283) rfl rfl k) ?_
          have cx139 : Fld Z T116.heap b1 "com/example/object_access_rules/objectaccessrules/Result" "below" "Lcom/example/object_access_rules/objectaccessrules/Result;" .null := ((f5_4.keep K34q nin0).keep K116q nin0)
          obtain ⟨cq138, kq138, q138a, q138b, q138c⟩ := isOf hZ rfl f116_0
          obtain ⟨_, _, ⟨T138, Lp138, kp138, np138⟩, -, X138, ⟨Lc138, hQ138, l138, y138, z138⟩, st138⟩ := X116.virtualBack hx (y := mt10) (z := mt10) hown (mvT hZ (wd84 hw)) (mvT hZ (wd85 hw)) (notFace_of_selects (args := #[]) (mvT hZ (wd87 hw))) (mvT hZ (wd87 hw)) (mvT hZ (wd86 hw)) (by decide) (backOf (W := 0) (own_og1 l Z a0 hw [] b116 b1 T116.heap n0 O128 f116_5 cx139) hZ (wd88 hw) (wd18 hw) (by decide) (by decide)) q138a q138c (g := (mkF m 285 #[.val (.int p0), .val (.int p1), .val (.int p2), .val (.int p3), .val (.int p4), .val (.int p5), .val (.int kk), .val (.ref d), .val (.ref sc), .val (.ref ms), .val (.ref b1), .val (.int dp), .val (.int z14_0), .val (.ref b116), .val (.ref b1), .unset] [(.ref b116)])) rfl (by rw [hml]; rfl) (Steps.refl _) (argsL := []) (rest := []) (lenOf pd___Lcom_example_object_access_rules_objectaccessrules_Result__5924 rfl) rfl (by show 2 * 0 + _ ≤ _; exact Nat.le_of_eq rfl) (hb hby at_285) (fun _ _ => ⟨rfl, rfl, (by decide : 20 + 0 ≤ _), (by decide : 231 + 0 ≤ _)⟩)
          dsimp only [Pt.U, Pt.locs, Pt.cells, Pt.slots] at X138 l138 y138 z138 st138 hQ138
          subst Lp138 kp138 np138
          obtain ⟨rfl, rfl, e138⟩ := hQ138
          try rw [List.append_nil] at X138
          refine own_tr (S' := T138.setTop (mkF m 288 #[.val (.int p0), .val (.int p1), .val (.int p2), .val (.int p3), .val (.int p4), .val (.int p5), .val (.int kk), .val (.ref d), .val (.ref sc), .val (.ref ms), .val (.ref b1), .val (.int dp), .val (.int z14_0), .val (.ref b116), .val (.ref b1), .unset] [(.ref b1)])) st138 ?_
          refine own_via (S' := T138.setTop (mkF m 290 #[.val (.int p0), .val (.int p1), .val (.int p2), .val (.int p3), .val (.int p4), .val (.int p5), .val (.int kk), .val (.ref d), .val (.ref sc), .val (.ref ms), .val (.ref b1), .val (.int dp), .val (.int z14_0), .val (.ref b116), .val (.ref b1), .val (.ref b1)] [])) (fun t k => XS.astore X138.here hx rfl (hb hby at_288) rfl rfl (l' := #[.val (.int p0), .val (.int p1), .val (.int p2), .val (.int p3), .val (.int p4), .val (.int p5), .val (.int kk), .val (.ref d), .val (.ref sc), .val (.ref ms), .val (.ref b1), .val (.int dp), .val (.int z14_0), .val (.ref b116), .val (.ref b1), .val (.ref b1)]) rfl k) ?_
          refine own_via (S' := T138.setTop (mkF m 292 #[.val (.int p0), .val (.int p1), .val (.int p2), .val (.int p3), .val (.int p4), .val (.int p5), .val (.int kk), .val (.ref d), .val (.ref sc), .val (.ref ms), .val (.ref b1), .val (.int dp), .val (.int z14_0), .val (.ref b116), .val (.ref b1), .val (.ref b1)] [(.ref b1)])) (fun t k => XS.aload X138.here hx rfl (hb hby at_290) rfl rfl k) ?_
          refine own_via (S' := T138.setTop (mkF m 294 #[.val (.int p0), .val (.int p1), .val (.int p2), .val (.int p3), .val (.int p4), .val (.int p5), .val (.int kk), .val (.ref d), .val (.ref sc), .val (.ref ms), .val (.ref b1), .val (.int dp), .val (.int z14_0), .val (.ref b116), .val (.ref b1), .val (.ref b1)] [(.ref b1), (.ref b1)])) (fun t k => XS.aload X138.here hx rfl (hb hby at_292) rfl rfl k) ?_
          refine own_via (S' := T138.setTop (mkF m 297 #[.val (.int p0), .val (.int p1), .val (.int p2), .val (.int p3), .val (.int p4), .val (.int p5), .val (.int kk), .val (.ref d), .val (.ref sc), .val (.ref ms), .val (.ref b1), .val (.int dp), .val (.int z14_0), .val (.ref b116), .val (.ref b1), .val (.ref b1)] [])) (fun t k => Jvm.RoadKit.acmp (g := (mkF m 294 #[.val (.int p0), .val (.int p1), .val (.int p2), .val (.int p3), .val (.int p4), .val (.int p5), .val (.int kk), .val (.ref d), .val (.ref sc), .val (.ref ms), .val (.ref b1), .val (.int dp), .val (.int z14_0), .val (.ref b116), .val (.ref b1), .val (.ref b1)] [(.ref b1), (.ref b1)])) X138 hx rfl rfl rfl (pc0 := 294) (pc' := 297) (same := true) rfl (hb hby at_294) rfl (decide_eq_true rfl) (by decide) (by decide) k) ?_
          refine own_via (S' := T138.setTop (mkF m 299 #[.val (.int p0), .val (.int p1), .val (.int p2), .val (.int p3), .val (.int p4), .val (.int p5), .val (.int kk), .val (.ref d), .val (.ref sc), .val (.ref ms), .val (.ref b1), .val (.int dp), .val (.int z14_0), .val (.ref b116), .val (.ref b1), .val (.ref b1)] [(.ref b1)])) (fun t k => XS.aload X138.here hx rfl (hb hby at_297) rfl rfl k) ?_
          have cx141 : Exa Z T116.heap b1 "com/example/object_access_rules/objectaccessrules/Result" := (cx117.keep K116q)
          obtain ⟨cq140, kq140, q140a, q140b, q140c⟩ := isOf hZ e138 cx141
          obtain ⟨_, _, ⟨T140, Lp140, kp140, np140⟩, -, X140, ⟨Lc140, hQ140, l140, y140, z140⟩, st140⟩ := X138.virtualBack hx (y := mt10) (z := mt10) hown (mvT hZ (wd84 hw)) (mvT hZ (wd85 hw)) (notFace_of_selects (args := #[]) (mvT hZ (wd87 hw))) (mvT hZ (wd87 hw)) (mvT hZ (wd86 hw)) (by decide) (backOf (W := 0) (own_og0 l Z a0 hw [] b1 T116.heap n0 O128 cx139) hZ (wd88 hw) (wd18 hw) (by decide) (by decide)) q140a q140c (g := (mkF m 299 #[.val (.int p0), .val (.int p1), .val (.int p2), .val (.int p3), .val (.int p4), .val (.int p5), .val (.int kk), .val (.ref d), .val (.ref sc), .val (.ref ms), .val (.ref b1), .val (.int dp), .val (.int z14_0), .val (.ref b116), .val (.ref b1), .val (.ref b1)] [(.ref b1)])) rfl (by rw [hml]; rfl) (Steps.refl _) (argsL := []) (rest := []) (lenOf pd___Lcom_example_object_access_rules_objectaccessrules_Result__5924 rfl) rfl (by show 2 * 0 + _ ≤ _; exact Nat.le_of_eq rfl) (hb hby at_299) (fun _ _ => ⟨rfl, e138, (by decide : 20 + 0 ≤ _), (by decide : 231 + 0 ≤ _)⟩)
          dsimp only [Pt.U, Pt.locs, Pt.cells, Pt.slots] at X140 l140 y140 z140 st140 hQ140
          subst Lp140 kp140 np140
          obtain ⟨rfl, rfl, e140⟩ := hQ140
          try rw [List.append_nil] at X140
          refine own_tr (S' := T140.setTop (mkF m 302 #[.val (.int p0), .val (.int p1), .val (.int p2), .val (.int p3), .val (.int p4), .val (.int p5), .val (.int kk), .val (.ref d), .val (.ref sc), .val (.ref ms), .val (.ref b1), .val (.int dp), .val (.int z14_0), .val (.ref b116), .val (.ref b1), .val (.ref b1)] [(.ref b1)])) st140 ?_
          refine own_via (S' := T140.setTop (mkF m 304 #[.val (.int p0), .val (.int p1), .val (.int p2), .val (.int p3), .val (.int p4), .val (.int p5), .val (.int kk), .val (.ref d), .val (.ref sc), .val (.ref ms), .val (.ref b1), .val (.int dp), .val (.int z14_0), .val (.ref b116), .val (.ref b1), .val (.ref b1)] [(.ref b1), (.ref b1)])) (fun t k => XS.aload X140.here hx rfl (hb hby at_302) rfl rfl k) ?_
          refine own_via (S' := T140.setTop (mkF m 307 #[.val (.int p0), .val (.int p1), .val (.int p2), .val (.int p3), .val (.int p4), .val (.int p5), .val (.int kk), .val (.ref d), .val (.ref sc), .val (.ref ms), .val (.ref b1), .val (.int dp), .val (.int z14_0), .val (.ref b116), .val (.ref b1), .val (.ref b1)] [])) (fun t k => Jvm.RoadKit.acmp (g := (mkF m 304 #[.val (.int p0), .val (.int p1), .val (.int p2), .val (.int p3), .val (.int p4), .val (.int p5), .val (.int kk), .val (.ref d), .val (.ref sc), .val (.ref ms), .val (.ref b1), .val (.int dp), .val (.int z14_0), .val (.ref b116), .val (.ref b1), .val (.ref b1)] [(.ref b1), (.ref b1)])) X140 hx rfl rfl rfl (pc0 := 304) (pc' := 307) (same := true) rfl (hb hby at_304) rfl (decide_eq_true rfl) (by decide) (by decide) k) ?_
          refine own_via (S' := T140.setTop (mkF m 308 #[.val (.int p0), .val (.int p1), .val (.int p2), .val (.int p3), .val (.int p4), .val (.int p5), .val (.int kk), .val (.ref d), .val (.ref sc), .val (.ref ms), .val (.ref b1), .val (.int dp), .val (.int z14_0), .val (.ref b116), .val (.ref b1), .val (.ref b1)] [(.int (1 : Int32))])) (fun t k => XS.iconst X140.here hx rfl (hb hby at_307) k) ?_
          refine own_via (S' := T140.setTop (mkF m 312 #[.val (.int p0), .val (.int p1), .val (.int p2), .val (.int p3), .val (.int p4), .val (.int p5), .val (.int kk), .val (.ref d), .val (.ref sc), .val (.ref ms), .val (.ref b1), .val (.int dp), .val (.int z14_0), .val (.ref b116), .val (.ref b1), .val (.ref b1)] [(.int (1 : Int32))])) (fun t k => XS.goto X140.here hx rfl (pc0 := 308) (pc' := 312) rfl (hb hby at_308) (by decide) (by decide) k) ?_
          have RTR127 : CHr Z own_EL s.vm h0 T140.vm T116.heap := R127.trans (CHv.at X140 hZ hEL R127.1)
          have RXR127 : CHr Z own_EL s.vm s.heap T140.vm T140.heap := by rw [hh, e140]; exact RTR127
          refine own_retW (Q := Q_own_law Z p0 p1 p2 p3 p4 p5 zc wP wD wN wI wO wM wG wY h0 n0) (C := room_1.cells) (N := room_1.slots) X140 hSn116 (by rw [e140]; omega) (v := some (.int (1 : Int32))) (fun h => by rw [hret] at h; cases h) hsync ?_ RXR127 (by decide) (by decide) (fun fs hr => retN X140 hx (t := .boolean) hret (by simp) (hb hby at_312) hr)
          show Q_own_law Z p0 p1 p2 p3 p4 p5 zc wP wD wN wI wO wM wG wY h0 n0 _ T140.vm T140.heap _
          rw [e140]
          exact ⟨rfl, N116⟩
        · -- no
          refine own_via (S' := T116.setTop (mkF m 259 #[.val (.int p0), .val (.int p1), .val (.int p2), .val (.int p3), .val (.int p4), .val (.int p5), .val (.int kk), .val (.ref d), .val (.ref sc), .val (.ref ms), .val (.ref b1), .val (.int dp), .val (.int z14_0), .val (.ref b116), .val (.ref b1), .unset] [])) (fun t k => XS.ifNo X116.here hx rfl (hb hby at_256) rfl ((if0 _ _).trans (feq hc256_137).1) k) ?_
          refine own_via (S' := T116.setTop (mkF m 261 #[.val (.int p0), .val (.int p1), .val (.int p2), .val (.int p3), .val (.int p4), .val (.int p5), .val (.int kk), .val (.ref d), .val (.ref sc), .val (.ref ms), .val (.ref b1), .val (.int dp), .val (.int z14_0), .val (.ref b116), .val (.ref b1), .unset] [(.ref b116)])) (fun t k => XS.aload X116.here hx rfl (hb hby at_259) rfl rfl k) ?_
          have hk142 : T116.heap.size ≤ T116.heap.size := by omega
          obtain ⟨cq142, kq142, q142a, q142b, q142c⟩ := isOf hZ rfl f116_0
          obtain ⟨_, _, ⟨T142, Lp142, kp142, np142⟩, -, X142, hS142, hgr142, ⟨Lc142, ⟨hQ142, R142q⟩, l142, y142, z142⟩, st142⟩ := X116.virtualBackS hx (y := mt9) (z := mt9) hown (mvT hZ (wd89 hw)) (mvT hZ (wd90 hw)) (notFace_of_selects (args := #[]) (mvT hZ (wd92 hw))) (mvT hZ (wd92 hw)) (mvT hZ (wd91 hw)) (by decide) (own_backW (SL := []) (W := 0) (own_adR l Z a0 hw [] b116 b34 b1 wI wO wD T116.heap n0 O128 zf_S_com_example_object_access_rules_objectaccessrules_Decision_INDETERMINATE zf_S_com_example_object_access_rules_objectaccessrules_StatusCode_OK zf_S_com_example_object_access_rules_objectaccessrules_Decision_DENY zf_E_wD zf_E_wO f116_4 f116_5 hD.2.2.2.2.1) hZ (wd93 hw) (wd18 hw) (by decide) (by decide) hEL R127.1 all0) q142a q142c (g := (mkF m 261 #[.val (.int p0), .val (.int p1), .val (.int p2), .val (.int p3), .val (.int p4), .val (.int p5), .val (.int kk), .val (.ref d), .val (.ref sc), .val (.ref ms), .val (.ref b1), .val (.int dp), .val (.int z14_0), .val (.ref b116), .val (.ref b1), .unset] [(.ref b116)])) rfl (by rw [hml]; rfl) (Steps.refl _) (argsL := []) (rest := []) (lenOf pd___Lcom_example_object_access_rules_objectaccessrules_Result__5924 rfl) rfl (by show 2 * 0 + _ ≤ _; exact Nat.le_of_eq rfl) (hb hby at_261) (fun _ _ => ⟨rfl, rfl, (by decide : 20 + 9 ≤ _), (by decide : 231 + 105 ≤ _)⟩)
          dsimp only [Pt.U, Pt.locs, Pt.cells, Pt.slots] at X142 l142 y142 z142 st142 hQ142 hS142 hgr142 R142q
          subst Lp142 kp142 np142
          obtain ⟨X142, hSn142, hZ, hown⟩ := rebS hSn116 hk142 X142 hS142 hgr142 hZ hown
          obtain ⟨b142, rfl, N142q, K142q, f142_0, f142_1, f142_2⟩ := hQ142
          have N142 := Fr.app N116 N142q
          have sz143 : T116.heap.size ≤ T142.heap.size := K142q.1
          have R144 : CHr Z own_EL s.vm h0 T142.vm T142.heap := R127.trans R142q
          have O145 : Old Z n0 T142.heap := O128.keep K142q all0
          have lt146_b142 : T142.heap.size > b142 := f142_0.lt
          have lt147_b142 : T142.heap.size > b142 := f142_1.lt
          have lt148_b142 : T142.heap.size > b142 := f142_2.lt
          refine own_tr (S' := T142.setTop (mkF m 264 #[.val (.int p0), .val (.int p1), .val (.int p2), .val (.int p3), .val (.int p4), .val (.int p5), .val (.int kk), .val (.ref d), .val (.ref sc), .val (.ref ms), .val (.ref b1), .val (.int dp), .val (.int z14_0), .val (.ref b116), .val (.ref b1), .unset] [(.ref b142)])) st142 ?_
          refine own_via (S' := T142.setTop (mkF m 266 #[.val (.int p0), .val (.int p1), .val (.int p2), .val (.int p3), .val (.int p4), .val (.int p5), .val (.int kk), .val (.ref d), .val (.ref sc), .val (.ref ms), .val (.ref b1), .val (.int dp), .val (.int z14_0), .val (.ref b142), .val (.ref b1), .unset] [])) (fun t k => XS.astore X142.here hx rfl (hb hby at_264) rfl rfl (l' := #[.val (.int p0), .val (.int p1), .val (.int p2), .val (.int p3), .val (.int p4), .val (.int p5), .val (.int kk), .val (.ref d), .val (.ref sc), .val (.ref ms), .val (.ref b1), .val (.int dp), .val (.int z14_0), .val (.ref b142), .val (.ref b1), .unset]) rfl k) ?_
          refine own_via (S' := T142.setTop (mkF m 268 #[.val (.int p0), .val (.int p1), .val (.int p2), .val (.int p3), .val (.int p4), .val (.int p5), .val (.int kk), .val (.ref d), .val (.ref sc), .val (.ref ms), .val (.ref b1), .val (.int dp), .val (.int z14_0), .val (.ref b142), .val (.ref b1), .unset] [(.int dp)])) (fun t k => XS.iload X142.here hx rfl (hb hby at_266) rfl k) ?_
          have hc268_149 : ¬ (dp = (0 : Int32)) := fun q => hc185_16 (by rw [q]; decide)
          refine own_via (S' := T142.setTop (mkF m 271 #[.val (.int p0), .val (.int p1), .val (.int p2), .val (.int p3), .val (.int p4), .val (.int p5), .val (.int kk), .val (.ref d), .val (.ref sc), .val (.ref ms), .val (.ref b1), .val (.int dp), .val (.int z14_0), .val (.ref b142), .val (.ref b1), .unset] [])) (fun t k => XS.ifNo X142.here hx rfl (hb hby at_268) rfl ((if0 _ _).trans (feq hc268_149).1) k) ?_
          refine own_via (S' := T142.setTop (mkF m 273 #[.val (.int p0), .val (.int p1), .val (.int p2), .val (.int p3), .val (.int p4), .val (.int p5), .val (.int kk), .val (.ref d), .val (.ref sc), .val (.ref ms), .val (.ref b1), .val (.int dp), .val (.int z14_0), .val (.ref b142), .val (.ref b1), .unset] [(.ref d)])) (fun t k => XS.aload X142.here hx rfl (hb hby at_271) rfl rfl k) ?_
          have cx150 : Sta Z T142.heap "com/example/object_access_rules/objectaccessrules/Decision" "NOT_APPLICABLE" "Lcom/example/object_access_rules/objectaccessrules/Decision;" (.ref wN) := zf_S_com_example_object_access_rules_objectaccessrules_Decision_NOT_APPLICABLE.ext O145.2
          obtain ⟨T151, X151, e151, st151⟩ := getS2 X142 hx hZ hown (host := "") (Or.inl (wd97 hw)) Via.refl rfl cx150 (g := (mkF m 273 #[.val (.int p0), .val (.int p1), .val (.int p2), .val (.int p3), .val (.int p4), .val (.int p5), .val (.int kk), .val (.ref d), .val (.ref sc), .val (.ref ms), .val (.ref b1), .val (.int dp), .val (.int z14_0), .val (.ref b142), .val (.ref b1), .unset] [(.ref d)])) rfl (hb hby at_273)
          refine own_via (S' := T151.setTop (mkF m 276 #[.val (.int p0), .val (.int p1), .val (.int p2), .val (.int p3), .val (.int p4), .val (.int p5), .val (.int kk), .val (.ref d), .val (.ref sc), .val (.ref ms), .val (.ref b1), .val (.int dp), .val (.int z14_0), .val (.ref b142), .val (.ref b1), .unset] [(.ref wN), (.ref d)])) st151 ?_
          refine own_via (S' := T151.setTop (mkF m 283 #[.val (.int p0), .val (.int p1), .val (.int p2), .val (.int p3), .val (.int p4), .val (.int p5), .val (.int kk), .val (.ref d), .val (.ref sc), .val (.ref ms), .val (.ref b1), .val (.int dp), .val (.int z14_0), .val (.ref b142), .val (.ref b1), .unset] [])) (fun t k => Jvm.RoadKit.acmp (g := (mkF m 276 #[.val (.int p0), .val (.int p1), .val (.int p2), .val (.int p3), .val (.int p4), .val (.int p5), .val (.int kk), .val (.ref d), .val (.ref sc), .val (.ref ms), .val (.ref b1), .val (.int dp), .val (.int z14_0), .val (.ref b142), .val (.ref b1), .unset] [(.ref wN), (.ref d)])) X151 hx rfl rfl rfl (pc0 := 276) (pc' := 283) (same := false) rfl (hb hby at_276) rfl (decide_eq_false fun q => hs199_39 (Value.ref.inj q)) (by decide) (by decide) k) ?_
          refine own_via (S' := T151.setTop (mkF m 285 #[.val (.int p0), .val (.int p1), .val (.int p2), .val (.int p3), .val (.int p4), .val (.int p5), .val (.int kk), .val (.ref d), .val (.ref sc), .val (.ref ms), .val (.ref b1), .val (.int dp), .val (.int z14_0), .val (.ref b142), .val (.ref b1), .unset] [(.ref b142)])) (fun t k => XS.aload X151.here hx rfl (hb hby at_283) rfl rfl k) ?_
          have cx153 : Fld Z T142.heap b1 "com/example/object_access_rules/objectaccessrules/Result" "below" "Lcom/example/object_access_rules/objectaccessrules/Result;" .null := (((f5_4.keep K34q nin0).keep K116q nin0).keep K142q nin0)
          obtain ⟨cq152, kq152, q152a, q152b, q152c⟩ := isOf hZ e151 f142_0
          obtain ⟨_, _, ⟨T152, Lp152, kp152, np152⟩, -, X152, ⟨Lc152, hQ152, l152, y152, z152⟩, st152⟩ := X151.virtualBack hx (y := mt10) (z := mt10) hown (mvT hZ (wd84 hw)) (mvT hZ (wd85 hw)) (notFace_of_selects (args := #[]) (mvT hZ (wd87 hw))) (mvT hZ (wd87 hw)) (mvT hZ (wd86 hw)) (by decide) (backOf (W := 0) (own_og1 l Z a0 hw [] b142 b1 T142.heap n0 O145 f142_2 cx153) hZ (wd88 hw) (wd18 hw) (by decide) (by decide)) q152a q152c (g := (mkF m 285 #[.val (.int p0), .val (.int p1), .val (.int p2), .val (.int p3), .val (.int p4), .val (.int p5), .val (.int kk), .val (.ref d), .val (.ref sc), .val (.ref ms), .val (.ref b1), .val (.int dp), .val (.int z14_0), .val (.ref b142), .val (.ref b1), .unset] [(.ref b142)])) rfl (by rw [hml]; rfl) (Steps.refl _) (argsL := []) (rest := []) (lenOf pd___Lcom_example_object_access_rules_objectaccessrules_Result__5924 rfl) rfl (by show 2 * 0 + _ ≤ _; exact Nat.le_of_eq rfl) (hb hby at_285) (fun _ _ => ⟨rfl, e151, (by decide : 29 + 0 ≤ _), (by decide : 336 + 0 ≤ _)⟩)
          dsimp only [Pt.U, Pt.locs, Pt.cells, Pt.slots] at X152 l152 y152 z152 st152 hQ152
          subst Lp152 kp152 np152
          obtain ⟨rfl, rfl, e152⟩ := hQ152
          try rw [List.append_nil] at X152
          refine own_tr (S' := T152.setTop (mkF m 288 #[.val (.int p0), .val (.int p1), .val (.int p2), .val (.int p3), .val (.int p4), .val (.int p5), .val (.int kk), .val (.ref d), .val (.ref sc), .val (.ref ms), .val (.ref b1), .val (.int dp), .val (.int z14_0), .val (.ref b142), .val (.ref b1), .unset] [(.ref b1)])) st152 ?_
          refine own_via (S' := T152.setTop (mkF m 290 #[.val (.int p0), .val (.int p1), .val (.int p2), .val (.int p3), .val (.int p4), .val (.int p5), .val (.int kk), .val (.ref d), .val (.ref sc), .val (.ref ms), .val (.ref b1), .val (.int dp), .val (.int z14_0), .val (.ref b142), .val (.ref b1), .val (.ref b1)] [])) (fun t k => XS.astore X152.here hx rfl (hb hby at_288) rfl rfl (l' := #[.val (.int p0), .val (.int p1), .val (.int p2), .val (.int p3), .val (.int p4), .val (.int p5), .val (.int kk), .val (.ref d), .val (.ref sc), .val (.ref ms), .val (.ref b1), .val (.int dp), .val (.int z14_0), .val (.ref b142), .val (.ref b1), .val (.ref b1)]) rfl k) ?_
          refine own_via (S' := T152.setTop (mkF m 292 #[.val (.int p0), .val (.int p1), .val (.int p2), .val (.int p3), .val (.int p4), .val (.int p5), .val (.int kk), .val (.ref d), .val (.ref sc), .val (.ref ms), .val (.ref b1), .val (.int dp), .val (.int z14_0), .val (.ref b142), .val (.ref b1), .val (.ref b1)] [(.ref b1)])) (fun t k => XS.aload X152.here hx rfl (hb hby at_290) rfl rfl k) ?_
          refine own_via (S' := T152.setTop (mkF m 294 #[.val (.int p0), .val (.int p1), .val (.int p2), .val (.int p3), .val (.int p4), .val (.int p5), .val (.int kk), .val (.ref d), .val (.ref sc), .val (.ref ms), .val (.ref b1), .val (.int dp), .val (.int z14_0), .val (.ref b142), .val (.ref b1), .val (.ref b1)] [(.ref b1), (.ref b1)])) (fun t k => XS.aload X152.here hx rfl (hb hby at_292) rfl rfl k) ?_
          refine own_via (S' := T152.setTop (mkF m 297 #[.val (.int p0), .val (.int p1), .val (.int p2), .val (.int p3), .val (.int p4), .val (.int p5), .val (.int kk), .val (.ref d), .val (.ref sc), .val (.ref ms), .val (.ref b1), .val (.int dp), .val (.int z14_0), .val (.ref b142), .val (.ref b1), .val (.ref b1)] [])) (fun t k => Jvm.RoadKit.acmp (g := (mkF m 294 #[.val (.int p0), .val (.int p1), .val (.int p2), .val (.int p3), .val (.int p4), .val (.int p5), .val (.int kk), .val (.ref d), .val (.ref sc), .val (.ref ms), .val (.ref b1), .val (.int dp), .val (.int z14_0), .val (.ref b142), .val (.ref b1), .val (.ref b1)] [(.ref b1), (.ref b1)])) X152 hx rfl rfl rfl (pc0 := 294) (pc' := 297) (same := true) rfl (hb hby at_294) rfl (decide_eq_true rfl) (by decide) (by decide) k) ?_
          refine own_via (S' := T152.setTop (mkF m 299 #[.val (.int p0), .val (.int p1), .val (.int p2), .val (.int p3), .val (.int p4), .val (.int p5), .val (.int kk), .val (.ref d), .val (.ref sc), .val (.ref ms), .val (.ref b1), .val (.int dp), .val (.int z14_0), .val (.ref b142), .val (.ref b1), .val (.ref b1)] [(.ref b1)])) (fun t k => XS.aload X152.here hx rfl (hb hby at_297) rfl rfl k) ?_
          have cx155 : Exa Z T142.heap b1 "com/example/object_access_rules/objectaccessrules/Result" := ((cx117.keep K116q).keep K142q)
          obtain ⟨cq154, kq154, q154a, q154b, q154c⟩ := isOf hZ e152 cx155
          obtain ⟨_, _, ⟨T154, Lp154, kp154, np154⟩, -, X154, ⟨Lc154, hQ154, l154, y154, z154⟩, st154⟩ := X152.virtualBack hx (y := mt10) (z := mt10) hown (mvT hZ (wd84 hw)) (mvT hZ (wd85 hw)) (notFace_of_selects (args := #[]) (mvT hZ (wd87 hw))) (mvT hZ (wd87 hw)) (mvT hZ (wd86 hw)) (by decide) (backOf (W := 0) (own_og0 l Z a0 hw [] b1 T142.heap n0 O145 cx153) hZ (wd88 hw) (wd18 hw) (by decide) (by decide)) q154a q154c (g := (mkF m 299 #[.val (.int p0), .val (.int p1), .val (.int p2), .val (.int p3), .val (.int p4), .val (.int p5), .val (.int kk), .val (.ref d), .val (.ref sc), .val (.ref ms), .val (.ref b1), .val (.int dp), .val (.int z14_0), .val (.ref b142), .val (.ref b1), .val (.ref b1)] [(.ref b1)])) rfl (by rw [hml]; rfl) (Steps.refl _) (argsL := []) (rest := []) (lenOf pd___Lcom_example_object_access_rules_objectaccessrules_Result__5924 rfl) rfl (by show 2 * 0 + _ ≤ _; exact Nat.le_of_eq rfl) (hb hby at_299) (fun _ _ => ⟨rfl, e152, (by decide : 29 + 0 ≤ _), (by decide : 336 + 0 ≤ _)⟩)
          dsimp only [Pt.U, Pt.locs, Pt.cells, Pt.slots] at X154 l154 y154 z154 st154 hQ154
          subst Lp154 kp154 np154
          obtain ⟨rfl, rfl, e154⟩ := hQ154
          try rw [List.append_nil] at X154
          refine own_tr (S' := T154.setTop (mkF m 302 #[.val (.int p0), .val (.int p1), .val (.int p2), .val (.int p3), .val (.int p4), .val (.int p5), .val (.int kk), .val (.ref d), .val (.ref sc), .val (.ref ms), .val (.ref b1), .val (.int dp), .val (.int z14_0), .val (.ref b142), .val (.ref b1), .val (.ref b1)] [(.ref b1)])) st154 ?_
          refine own_via (S' := T154.setTop (mkF m 304 #[.val (.int p0), .val (.int p1), .val (.int p2), .val (.int p3), .val (.int p4), .val (.int p5), .val (.int kk), .val (.ref d), .val (.ref sc), .val (.ref ms), .val (.ref b1), .val (.int dp), .val (.int z14_0), .val (.ref b142), .val (.ref b1), .val (.ref b1)] [(.ref b1), (.ref b1)])) (fun t k => XS.aload X154.here hx rfl (hb hby at_302) rfl rfl k) ?_
          refine own_via (S' := T154.setTop (mkF m 307 #[.val (.int p0), .val (.int p1), .val (.int p2), .val (.int p3), .val (.int p4), .val (.int p5), .val (.int kk), .val (.ref d), .val (.ref sc), .val (.ref ms), .val (.ref b1), .val (.int dp), .val (.int z14_0), .val (.ref b142), .val (.ref b1), .val (.ref b1)] [])) (fun t k => Jvm.RoadKit.acmp (g := (mkF m 304 #[.val (.int p0), .val (.int p1), .val (.int p2), .val (.int p3), .val (.int p4), .val (.int p5), .val (.int kk), .val (.ref d), .val (.ref sc), .val (.ref ms), .val (.ref b1), .val (.int dp), .val (.int z14_0), .val (.ref b142), .val (.ref b1), .val (.ref b1)] [(.ref b1), (.ref b1)])) X154 hx rfl rfl rfl (pc0 := 304) (pc' := 307) (same := true) rfl (hb hby at_304) rfl (decide_eq_true rfl) (by decide) (by decide) k) ?_
          refine own_via (S' := T154.setTop (mkF m 308 #[.val (.int p0), .val (.int p1), .val (.int p2), .val (.int p3), .val (.int p4), .val (.int p5), .val (.int kk), .val (.ref d), .val (.ref sc), .val (.ref ms), .val (.ref b1), .val (.int dp), .val (.int z14_0), .val (.ref b142), .val (.ref b1), .val (.ref b1)] [(.int (1 : Int32))])) (fun t k => XS.iconst X154.here hx rfl (hb hby at_307) k) ?_
          refine own_via (S' := T154.setTop (mkF m 312 #[.val (.int p0), .val (.int p1), .val (.int p2), .val (.int p3), .val (.int p4), .val (.int p5), .val (.int kk), .val (.ref d), .val (.ref sc), .val (.ref ms), .val (.ref b1), .val (.int dp), .val (.int z14_0), .val (.ref b142), .val (.ref b1), .val (.ref b1)] [(.int (1 : Int32))])) (fun t k => XS.goto X154.here hx rfl (pc0 := 308) (pc' := 312) rfl (hb hby at_308) (by decide) (by decide) k) ?_
          have RTR144 : CHr Z own_EL s.vm h0 T154.vm T142.heap := R144.trans (CHv.at X154 hZ hEL R144.1)
          have RXR144 : CHr Z own_EL s.vm s.heap T154.vm T154.heap := by rw [hh, e154]; exact RTR144
          refine own_retW (Q := Q_own_law Z p0 p1 p2 p3 p4 p5 zc wP wD wN wI wO wM wG wY h0 n0) (C := room_1.cells) (N := room_1.slots) X154 hSn142 (by rw [e154]; omega) (v := some (.int (1 : Int32))) (fun h => by rw [hret] at h; cases h) hsync ?_ RXR144 (by decide) (by decide) (fun fs hr => retN X154 hx (t := .boolean) hret (by simp) (hb hby at_312) hr)
          show Q_own_law Z p0 p1 p2 p3 p4 p5 zc wP wD wN wI wO wM wG wY h0 n0 _ T154.vm T154.heap _
          rw [e154]
          exact ⟨rfl, N142⟩
      · -- no
        refine own_via (S' := T116.setTop (mkF m 210 #[.val (.int p0), .val (.int p1), .val (.int p2), .val (.int p3), .val (.int p4), .val (.int p5), .val (.int kk), .val (.ref d), .val (.ref sc), .val (.ref ms), .val (.ref b1), .val (.int dp), .val (.int z14_0), .val (.ref b116), .unset, .unset] [])) (fun t k => XS.icmpNo X116.here hx rfl (hb hby at_207) rfl (flt hc207_135).1 k) ?_
        refine own_via (S' := T116.setTop (mkF m 212 #[.val (.int p0), .val (.int p1), .val (.int p2), .val (.int p3), .val (.int p4), .val (.int p5), .val (.int kk), .val (.ref d), .val (.ref sc), .val (.ref ms), .val (.ref b1), .val (.int dp), .val (.int z14_0), .val (.ref b116), .unset, .unset] [(.ref b116)])) (fun t k => XS.aload X116.here hx rfl (hb hby at_210) rfl rfl k) ?_
        refine own_via (S' := T116.setTop (mkF m 214 #[.val (.int p0), .val (.int p1), .val (.int p2), .val (.int p3), .val (.int p4), .val (.int p5), .val (.int kk), .val (.ref d), .val (.ref sc), .val (.ref ms), .val (.ref b1), .val (.int dp), .val (.int z14_0), .val (.ref b116), .unset, .unset] [(.int p4), (.ref b116)])) (fun t k => XS.iload X116.here hx rfl (hb hby at_212) rfl k) ?_
        refine own_via (S' := T116.setTop (mkF m 217 #[.val (.int p0), .val (.int p1), .val (.int p2), .val (.int p3), .val (.int p4), .val (.int p5), .val (.int kk), .val (.ref d), .val (.ref sc), .val (.ref ms), .val (.ref b1), .val (.int dp), .val (.int z14_0), .val (.ref b116), .unset, .unset] [(.int (255 : Int32)), (.int p4), (.ref b116)])) (fun t k => XS.sipush X116.here hx rfl (hb hby at_214) k) ?_
        refine own_via (S' := T116.setTop (mkF m 218 #[.val (.int p0), .val (.int p1), .val (.int p2), .val (.int p3), .val (.int p4), .val (.int p5), .val (.int kk), .val (.ref d), .val (.ref sc), .val (.ref ms), .val (.ref b1), .val (.int dp), .val (.int z14_0), .val (.ref b116), .unset, .unset] [(.int (p4 &&& (255 : Int32))), (.ref b116)])) (fun t k => XS.iand X116.here hx rfl (hb hby at_217) rfl k) ?_
        refine own_via (S' := T116.setTop (mkF m 219 #[.val (.int p0), .val (.int p1), .val (.int p2), .val (.int p3), .val (.int p4), .val (.int p5), .val (.int kk), .val (.ref d), .val (.ref sc), .val (.ref ms), .val (.ref b1), .val (.int dp), .val (.int z14_0), .val (.ref b116), .unset, .unset] [(.int ((p4 &&& (255 : Int32)).toUInt32.toUInt16.toUInt32.toInt32)), (.ref b116)])) (fun t k => XS.i2c X116.here hx rfl (hb hby at_218) rfl k) ?_
        obtain ⟨ch2, hn_ch2⟩ : ∃ z : Int32, z = ((p4 &&& (255 : Int32)).toUInt32.toUInt16.toUInt32.toInt32) := ⟨_, rfl⟩
        rw [← hn_ch2]
        have rng_ch2 : ¬ ch2 < 0 ∧ ¬ (255 : Int32) < ch2 := by rw [hn_ch2]; exact own_and255 _
        obtain ⟨_, _, ⟨T156, Lp156, kp156, np156⟩, -, X156, ⟨Lc156, hQ156, l156, y156, z156⟩, st156⟩ := Jvm.LawKit.callS X116 hx (y := mt7) hown (mvT hZ (wd59 hw)) (mvT hZ (wd60 hw)) (mvT hZ (wd9 hw)) (mvT hZ (wd61 hw)) (by decide) (backOf (W := 1) (own_valueOf l Z a0 hw [] ch2 zc T116.heap n0 O128 zf_S_java_lang_String_COMPACT_STRINGS hzc rng_ch2) hZ (wd61 hw) (wd9 hw) (by decide) (by decide)) (g := (mkF m 219 #[.val (.int p0), .val (.int p1), .val (.int p2), .val (.int p3), .val (.int p4), .val (.int p5), .val (.int kk), .val (.ref d), .val (.ref sc), .val (.ref ms), .val (.ref b1), .val (.int dp), .val (.int z14_0), .val (.ref b116), .unset, .unset] [(.int ch2), (.ref b116)])) rfl (by rw [hml]; rfl) (argsL := [(.int ch2)]) (rest := [(.ref b116)]) (lenOf pd__C_Ljava_lang_String__1844 rfl) rfl (by show 2 * 0 + _ ≤ _; exact Nat.le_of_eq rfl) (hb hby at_219) (fun _ _ => ⟨rfl, rfl, (by decide : 20 + 2 ≤ _), (by decide : 231 + 5 ≤ _)⟩)
        dsimp only [Pt.U, Pt.locs, Pt.cells, Pt.slots] at X156 l156 y156 z156 st156 hQ156
        subst Lp156 kp156 np156
        obtain ⟨b156, rfl, N156q, K156q, f156_0⟩ := hQ156
        have N156 := Fr.app N116 N156q
        have sf156 : ∀ x ∈ ([] : List Addr), Safe Z own_EL T116.vm T116.heap x := sf0
        have sz157 : T116.heap.size ≤ T156.heap.size := K156q.1
        have R158 : CHr Z own_EL s.vm h0 T116.vm T156.heap := R127.trans (CHr.keep K156q sf156 R127.1)
        have O159 : Old Z n0 T156.heap := O128.keep K156q all0
        have lt160_b156 : T156.heap.size > b156 := f156_0.lt
        refine own_via (S' := T156.setTop (mkF m 222 #[.val (.int p0), .val (.int p1), .val (.int p2), .val (.int p3), .val (.int p4), .val (.int p5), .val (.int kk), .val (.ref d), .val (.ref sc), .val (.ref ms), .val (.ref b1), .val (.int dp), .val (.int z14_0), .val (.ref b116), .unset, .unset] [(.ref b156), (.ref b116)])) st156 ?_
        have cx162 : Exa Z T156.heap b116 "com/example/object_access_rules/objectaccessrules/Result" := (f116_0.keep K156q)
        have cx163 : Fld Z T156.heap b116 "com/example/object_access_rules/objectaccessrules/Result" "decision" "Lcom/example/object_access_rules/objectaccessrules/Decision;" (.ref d) := (f116_1.keep K156q nin0)
        have cx164 : Fld Z T156.heap b116 "com/example/object_access_rules/objectaccessrules/Result" "status" "Lcom/example/object_access_rules/objectaccessrules/StatusCode;" (.ref sc) := (f116_2.keep K156q nin0)
        have cx165 : Fld Z T156.heap b116 "com/example/object_access_rules/objectaccessrules/Result" "message" "Ljava/lang/String;" (.ref ms) := (f116_3.keep K156q nin0)
        have cx166 : Exa Z T156.heap d "com/example/object_access_rules/objectaccessrules/Decision" := ((cx121.keep K116q).keep K156q)
        have cx167 : Exa Z T156.heap sc "com/example/object_access_rules/objectaccessrules/StatusCode" := ((cx122.keep K116q).keep K156q)
        have cx168 : Exa Z T156.heap ms "java/lang/String" := ((cx123.keep K116q).keep K156q)
        have cx169 : Fld Z T156.heap ms "java/lang/String" "value" "[B" (.ref tm) := ((cx124.keep K116q nin0).keep K156q nin0)
        have cx170 : Arv Z T156.heap tm km .byte zl vsm (.int (0 : Int32)) := ((cx125.keep K116q nin0).keep K156q nin0)
        have hk161 : T116.heap.size ≤ T156.heap.size := by omega
        obtain ⟨cq161, kq161, q161a, q161b, q161c⟩ := isOf hZ rfl cx162
        obtain ⟨_, _, ⟨T161, Lp161, kp161, np161⟩, -, X161, hS161, hgr161, ⟨Lc161, ⟨hQ161, R161q⟩, l161, y161, z161⟩, st161⟩ := X156.virtualBackS hx (y := mt8) (z := mt8) hown (mvT hZ (wd76 hw)) (mvT hZ (wd77 hw)) (notFace_of_selects (args := #[]) (mvT hZ (wd79 hw))) (mvT hZ (wd79 hw)) (mvT hZ (wd78 hw)) (by decide) (own_backW (SL := []) (W := 0) (own_thrX l Z a0 hw [] b116 b156 d sc ms tm km zl vsm wI wO wN T156.heap n0 O159 zf_S_com_example_object_access_rules_objectaccessrules_Decision_INDETERMINATE zf_S_com_example_object_access_rules_objectaccessrules_StatusCode_OK zf_S_com_example_object_access_rules_objectaccessrules_Decision_NOT_APPLICABLE cx162 cx163 cx164 cx165 cx166 cx167 cx168 cx169 cx170 hs199_39 hcons) hZ (wd80 hw) (wd18 hw) (by decide) (by decide) hEL R158.1 all0) q161a q161c (g := (mkF m 222 #[.val (.int p0), .val (.int p1), .val (.int p2), .val (.int p3), .val (.int p4), .val (.int p5), .val (.int kk), .val (.ref d), .val (.ref sc), .val (.ref ms), .val (.ref b1), .val (.int dp), .val (.int z14_0), .val (.ref b116), .unset, .unset] [(.ref b156), (.ref b116)])) rfl (by rw [hml]; rfl) (Steps.refl _) (argsL := [(.ref b156)]) (rest := []) (lenOf pd__Ljava_lang_String__Lcom_example_object_access_rules_objectaccessrules_Result__7620 rfl) rfl (by show 2 * 0 + _ ≤ _; exact Nat.le_of_eq rfl) (hb hby at_222) (fun _ _ => ⟨rfl, rfl, (by decide : 22 + 7 ≤ _), (by decide : 236 + 101 ≤ _)⟩)
        dsimp only [Pt.U, Pt.locs, Pt.cells, Pt.slots] at X161 l161 y161 z161 st161 hQ161 hS161 hgr161 R161q
        subst Lp161 kp161 np161
        obtain ⟨X161, hSn161, hZ, hown⟩ := rebS hSn116 hk161 X161 hS161 hgr161 hZ hown
        obtain ⟨b161, rfl, N161q, K161q, f161_0, f161_1, f161_2, f161_3, f161_4, f161_5⟩ := hQ161
        have N161 := Fr.app N156 N161q
        have sz171 : T156.heap.size ≤ T161.heap.size := K161q.1
        have R172 : CHr Z own_EL s.vm h0 T161.vm T161.heap := R158.trans R161q
        have O173 : Old Z n0 T161.heap := O159.keep K161q all0
        have lt174_b161 : T161.heap.size > b161 := f161_0.lt
        have lt175_b161 : T161.heap.size > b161 := f161_1.lt
        have lt176_b161 : T161.heap.size > b161 := f161_2.lt
        have lt177_b161 : T161.heap.size > b161 := f161_3.lt
        have lt178_b161 : T161.heap.size > b161 := f161_4.lt
        have lt179_b161 : T161.heap.size > b161 := f161_5.lt
        refine own_tr (S' := T161.setTop (mkF m 225 #[.val (.int p0), .val (.int p1), .val (.int p2), .val (.int p3), .val (.int p4), .val (.int p5), .val (.int kk), .val (.ref d), .val (.ref sc), .val (.ref ms), .val (.ref b1), .val (.int dp), .val (.int z14_0), .val (.ref b116), .unset, .unset] [(.ref b161)])) st161 ?_
        refine own_via (S' := T161.setTop (mkF m 227 #[.val (.int p0), .val (.int p1), .val (.int p2), .val (.int p3), .val (.int p4), .val (.int p5), .val (.int kk), .val (.ref d), .val (.ref sc), .val (.ref ms), .val (.ref b1), .val (.int dp), .val (.int z14_0), .val (.ref b161), .unset, .unset] [])) (fun t k => XS.astore X161.here hx rfl (hb hby at_225) rfl rfl (l' := #[.val (.int p0), .val (.int p1), .val (.int p2), .val (.int p3), .val (.int p4), .val (.int p5), .val (.int kk), .val (.ref d), .val (.ref sc), .val (.ref ms), .val (.ref b1), .val (.int dp), .val (.int z14_0), .val (.ref b161), .unset, .unset]) rfl k) ?_
        refine own_via (S' := T161.setTop (mkF m 229 #[.val (.int p0), .val (.int p1), .val (.int p2), .val (.int p3), .val (.int p4), .val (.int p5), .val (.int kk), .val (.ref d), .val (.ref sc), .val (.ref ms), .val (.ref b1), .val (.int dp), .val (.int z14_0), .val (.ref b161), .unset, .unset] [(.int dp)])) (fun t k => XS.iload X161.here hx rfl (hb hby at_227) rfl k) ?_
        refine own_via (S' := T161.setTop (mkF m 230 #[.val (.int p0), .val (.int p1), .val (.int p2), .val (.int p3), .val (.int p4), .val (.int p5), .val (.int kk), .val (.ref d), .val (.ref sc), .val (.ref ms), .val (.ref b1), .val (.int dp), .val (.int z14_0), .val (.ref b161), .unset, .unset] [(.int (3 : Int32)), (.int dp)])) (fun t k => XS.iconst X161.here hx rfl (hb hby at_229) k) ?_
        by_cases hc230_180 : dp < (3 : Int32)
        · -- yes
          refine own_via (S' := T161.setTop (mkF m 250 #[.val (.int p0), .val (.int p1), .val (.int p2), .val (.int p3), .val (.int p4), .val (.int p5), .val (.int kk), .val (.ref d), .val (.ref sc), .val (.ref ms), .val (.ref b1), .val (.int dp), .val (.int z14_0), .val (.ref b161), .unset, .unset] [])) (fun t k => XS.icmpYes X161.here hx rfl (pc0 := 230) (pc' := 250) rfl (hb hby at_230) rfl (tlt hc230_180).1 (by decide) (by decide) k) ?_
          refine own_via (S' := T161.setTop (mkF m 252 #[.val (.int p0), .val (.int p1), .val (.int p2), .val (.int p3), .val (.int p4), .val (.int p5), .val (.int kk), .val (.ref d), .val (.ref sc), .val (.ref ms), .val (.ref b1), .val (.int dp), .val (.int z14_0), .val (.ref b161), .unset, .unset] [(.ref b1)])) (fun t k => XS.aload X161.here hx rfl (hb hby at_250) rfl rfl k) ?_
          refine own_via (S' := T161.setTop (mkF m 254 #[.val (.int p0), .val (.int p1), .val (.int p2), .val (.int p3), .val (.int p4), .val (.int p5), .val (.int kk), .val (.ref d), .val (.ref sc), .val (.ref ms), .val (.ref b1), .val (.int dp), .val (.int z14_0), .val (.ref b161), .val (.ref b1), .unset] [])) (fun t k => XS.astore X161.here hx rfl (hb hby at_252) rfl rfl (l' := #[.val (.int p0), .val (.int p1), .val (.int p2), .val (.int p3), .val (.int p4), .val (.int p5), .val (.int kk), .val (.ref d), .val (.ref sc), .val (.ref ms), .val (.ref b1), .val (.int dp), .val (.int z14_0), .val (.ref b161), .val (.ref b1), .unset]) rfl k) ?_
          refine own_via (S' := T161.setTop (mkF m 256 #[.val (.int p0), .val (.int p1), .val (.int p2), .val (.int p3), .val (.int p4), .val (.int p5), .val (.int kk), .val (.ref d), .val (.ref sc), .val (.ref ms), .val (.ref b1), .val (.int dp), .val (.int z14_0), .val (.ref b161), .val (.ref b1), .unset] [(.int z14_0)])) (fun t k => XS.iload X161.here hx rfl (hb hby at_254) rfl k) ?_
          by_cases hc256_181 : z14_0 = (0 : Int32)
          · -- yes
            refine own_via (S' := T161.setTop (mkF m 283 #[.val (.int p0), .val (.int p1), .val (.int p2), .val (.int p3), .val (.int p4), .val (.int p5), .val (.int kk), .val (.ref d), .val (.ref sc), .val (.ref ms), .val (.ref b1), .val (.int dp), .val (.int z14_0), .val (.ref b161), .val (.ref b1), .unset] [])) (fun t k => XS.ifYes X161.here hx rfl (pc0 := 256) (pc' := 283) rfl (hb hby at_256) rfl ((if0 _ _).trans (teq hc256_181).1) (by decide) (by decide) k) ?_
            refine own_via (S' := T161.setTop (mkF m 285 #[.val (.int p0), .val (.int p1), .val (.int p2), .val (.int p3), .val (.int p4), .val (.int p5), .val (.int kk), .val (.ref d), .val (.ref sc), .val (.ref ms), .val (.ref b1), .val (.int dp), .val (.int z14_0), .val (.ref b161), .val (.ref b1), .unset] [(.ref b161)])) (fun t k => XS.aload X161.here hx rfl (hb hby at_283) rfl rfl k) ?_
            have cx183 : Fld Z T161.heap b116 "com/example/object_access_rules/objectaccessrules/Result" "below" "Lcom/example/object_access_rules/objectaccessrules/Result;" (.ref b1) := ((f116_5.keep K156q nin0).keep K161q nin0)
            have cx184 : Fld Z T161.heap b1 "com/example/object_access_rules/objectaccessrules/Result" "below" "Lcom/example/object_access_rules/objectaccessrules/Result;" .null := ((((f5_4.keep K34q nin0).keep K116q nin0).keep K156q nin0).keep K161q nin0)
            obtain ⟨cq182, kq182, q182a, q182b, q182c⟩ := isOf hZ rfl f161_0
            obtain ⟨_, _, ⟨T182, Lp182, kp182, np182⟩, -, X182, ⟨Lc182, hQ182, l182, y182, z182⟩, st182⟩ := X161.virtualBack hx (y := mt10) (z := mt10) hown (mvT hZ (wd84 hw)) (mvT hZ (wd85 hw)) (notFace_of_selects (args := #[]) (mvT hZ (wd87 hw))) (mvT hZ (wd87 hw)) (mvT hZ (wd86 hw)) (by decide) (backOf (W := 0) (own_og2 l Z a0 hw [] b161 b116 b1 T161.heap n0 O173 f161_5 cx183 cx184) hZ (wd88 hw) (wd18 hw) (by decide) (by decide)) q182a q182c (g := (mkF m 285 #[.val (.int p0), .val (.int p1), .val (.int p2), .val (.int p3), .val (.int p4), .val (.int p5), .val (.int kk), .val (.ref d), .val (.ref sc), .val (.ref ms), .val (.ref b1), .val (.int dp), .val (.int z14_0), .val (.ref b161), .val (.ref b1), .unset] [(.ref b161)])) rfl (by rw [hml]; rfl) (Steps.refl _) (argsL := []) (rest := []) (lenOf pd___Lcom_example_object_access_rules_objectaccessrules_Result__5924 rfl) rfl (by show 2 * 0 + _ ≤ _; exact Nat.le_of_eq rfl) (hb hby at_285) (fun _ _ => ⟨rfl, rfl, (by decide : 29 + 0 ≤ _), (by decide : 337 + 0 ≤ _)⟩)
            dsimp only [Pt.U, Pt.locs, Pt.cells, Pt.slots] at X182 l182 y182 z182 st182 hQ182
            subst Lp182 kp182 np182
            obtain ⟨rfl, rfl, e182⟩ := hQ182
            try rw [List.append_nil] at X182
            refine own_tr (S' := T182.setTop (mkF m 288 #[.val (.int p0), .val (.int p1), .val (.int p2), .val (.int p3), .val (.int p4), .val (.int p5), .val (.int kk), .val (.ref d), .val (.ref sc), .val (.ref ms), .val (.ref b1), .val (.int dp), .val (.int z14_0), .val (.ref b161), .val (.ref b1), .unset] [(.ref b1)])) st182 ?_
            refine own_via (S' := T182.setTop (mkF m 290 #[.val (.int p0), .val (.int p1), .val (.int p2), .val (.int p3), .val (.int p4), .val (.int p5), .val (.int kk), .val (.ref d), .val (.ref sc), .val (.ref ms), .val (.ref b1), .val (.int dp), .val (.int z14_0), .val (.ref b161), .val (.ref b1), .val (.ref b1)] [])) (fun t k => XS.astore X182.here hx rfl (hb hby at_288) rfl rfl (l' := #[.val (.int p0), .val (.int p1), .val (.int p2), .val (.int p3), .val (.int p4), .val (.int p5), .val (.int kk), .val (.ref d), .val (.ref sc), .val (.ref ms), .val (.ref b1), .val (.int dp), .val (.int z14_0), .val (.ref b161), .val (.ref b1), .val (.ref b1)]) rfl k) ?_
            refine own_via (S' := T182.setTop (mkF m 292 #[.val (.int p0), .val (.int p1), .val (.int p2), .val (.int p3), .val (.int p4), .val (.int p5), .val (.int kk), .val (.ref d), .val (.ref sc), .val (.ref ms), .val (.ref b1), .val (.int dp), .val (.int z14_0), .val (.ref b161), .val (.ref b1), .val (.ref b1)] [(.ref b1)])) (fun t k => XS.aload X182.here hx rfl (hb hby at_290) rfl rfl k) ?_
            refine own_via (S' := T182.setTop (mkF m 294 #[.val (.int p0), .val (.int p1), .val (.int p2), .val (.int p3), .val (.int p4), .val (.int p5), .val (.int kk), .val (.ref d), .val (.ref sc), .val (.ref ms), .val (.ref b1), .val (.int dp), .val (.int z14_0), .val (.ref b161), .val (.ref b1), .val (.ref b1)] [(.ref b1), (.ref b1)])) (fun t k => XS.aload X182.here hx rfl (hb hby at_292) rfl rfl k) ?_
            refine own_via (S' := T182.setTop (mkF m 297 #[.val (.int p0), .val (.int p1), .val (.int p2), .val (.int p3), .val (.int p4), .val (.int p5), .val (.int kk), .val (.ref d), .val (.ref sc), .val (.ref ms), .val (.ref b1), .val (.int dp), .val (.int z14_0), .val (.ref b161), .val (.ref b1), .val (.ref b1)] [])) (fun t k => Jvm.RoadKit.acmp (g := (mkF m 294 #[.val (.int p0), .val (.int p1), .val (.int p2), .val (.int p3), .val (.int p4), .val (.int p5), .val (.int kk), .val (.ref d), .val (.ref sc), .val (.ref ms), .val (.ref b1), .val (.int dp), .val (.int z14_0), .val (.ref b161), .val (.ref b1), .val (.ref b1)] [(.ref b1), (.ref b1)])) X182 hx rfl rfl rfl (pc0 := 294) (pc' := 297) (same := true) rfl (hb hby at_294) rfl (decide_eq_true rfl) (by decide) (by decide) k) ?_
            refine own_via (S' := T182.setTop (mkF m 299 #[.val (.int p0), .val (.int p1), .val (.int p2), .val (.int p3), .val (.int p4), .val (.int p5), .val (.int kk), .val (.ref d), .val (.ref sc), .val (.ref ms), .val (.ref b1), .val (.int dp), .val (.int z14_0), .val (.ref b161), .val (.ref b1), .val (.ref b1)] [(.ref b1)])) (fun t k => XS.aload X182.here hx rfl (hb hby at_297) rfl rfl k) ?_
            have cx186 : Exa Z T161.heap b1 "com/example/object_access_rules/objectaccessrules/Result" := (((cx117.keep K116q).keep K156q).keep K161q)
            obtain ⟨cq185, kq185, q185a, q185b, q185c⟩ := isOf hZ e182 cx186
            obtain ⟨_, _, ⟨T185, Lp185, kp185, np185⟩, -, X185, ⟨Lc185, hQ185, l185, y185, z185⟩, st185⟩ := X182.virtualBack hx (y := mt10) (z := mt10) hown (mvT hZ (wd84 hw)) (mvT hZ (wd85 hw)) (notFace_of_selects (args := #[]) (mvT hZ (wd87 hw))) (mvT hZ (wd87 hw)) (mvT hZ (wd86 hw)) (by decide) (backOf (W := 0) (own_og0 l Z a0 hw [] b1 T161.heap n0 O173 cx184) hZ (wd88 hw) (wd18 hw) (by decide) (by decide)) q185a q185c (g := (mkF m 299 #[.val (.int p0), .val (.int p1), .val (.int p2), .val (.int p3), .val (.int p4), .val (.int p5), .val (.int kk), .val (.ref d), .val (.ref sc), .val (.ref ms), .val (.ref b1), .val (.int dp), .val (.int z14_0), .val (.ref b161), .val (.ref b1), .val (.ref b1)] [(.ref b1)])) rfl (by rw [hml]; rfl) (Steps.refl _) (argsL := []) (rest := []) (lenOf pd___Lcom_example_object_access_rules_objectaccessrules_Result__5924 rfl) rfl (by show 2 * 0 + _ ≤ _; exact Nat.le_of_eq rfl) (hb hby at_299) (fun _ _ => ⟨rfl, e182, (by decide : 29 + 0 ≤ _), (by decide : 337 + 0 ≤ _)⟩)
            dsimp only [Pt.U, Pt.locs, Pt.cells, Pt.slots] at X185 l185 y185 z185 st185 hQ185
            subst Lp185 kp185 np185
            obtain ⟨rfl, rfl, e185⟩ := hQ185
            try rw [List.append_nil] at X185
            refine own_tr (S' := T185.setTop (mkF m 302 #[.val (.int p0), .val (.int p1), .val (.int p2), .val (.int p3), .val (.int p4), .val (.int p5), .val (.int kk), .val (.ref d), .val (.ref sc), .val (.ref ms), .val (.ref b1), .val (.int dp), .val (.int z14_0), .val (.ref b161), .val (.ref b1), .val (.ref b1)] [(.ref b1)])) st185 ?_
            refine own_via (S' := T185.setTop (mkF m 304 #[.val (.int p0), .val (.int p1), .val (.int p2), .val (.int p3), .val (.int p4), .val (.int p5), .val (.int kk), .val (.ref d), .val (.ref sc), .val (.ref ms), .val (.ref b1), .val (.int dp), .val (.int z14_0), .val (.ref b161), .val (.ref b1), .val (.ref b1)] [(.ref b1), (.ref b1)])) (fun t k => XS.aload X185.here hx rfl (hb hby at_302) rfl rfl k) ?_
            refine own_via (S' := T185.setTop (mkF m 307 #[.val (.int p0), .val (.int p1), .val (.int p2), .val (.int p3), .val (.int p4), .val (.int p5), .val (.int kk), .val (.ref d), .val (.ref sc), .val (.ref ms), .val (.ref b1), .val (.int dp), .val (.int z14_0), .val (.ref b161), .val (.ref b1), .val (.ref b1)] [])) (fun t k => Jvm.RoadKit.acmp (g := (mkF m 304 #[.val (.int p0), .val (.int p1), .val (.int p2), .val (.int p3), .val (.int p4), .val (.int p5), .val (.int kk), .val (.ref d), .val (.ref sc), .val (.ref ms), .val (.ref b1), .val (.int dp), .val (.int z14_0), .val (.ref b161), .val (.ref b1), .val (.ref b1)] [(.ref b1), (.ref b1)])) X185 hx rfl rfl rfl (pc0 := 304) (pc' := 307) (same := true) rfl (hb hby at_304) rfl (decide_eq_true rfl) (by decide) (by decide) k) ?_
            refine own_via (S' := T185.setTop (mkF m 308 #[.val (.int p0), .val (.int p1), .val (.int p2), .val (.int p3), .val (.int p4), .val (.int p5), .val (.int kk), .val (.ref d), .val (.ref sc), .val (.ref ms), .val (.ref b1), .val (.int dp), .val (.int z14_0), .val (.ref b161), .val (.ref b1), .val (.ref b1)] [(.int (1 : Int32))])) (fun t k => XS.iconst X185.here hx rfl (hb hby at_307) k) ?_
            refine own_via (S' := T185.setTop (mkF m 312 #[.val (.int p0), .val (.int p1), .val (.int p2), .val (.int p3), .val (.int p4), .val (.int p5), .val (.int kk), .val (.ref d), .val (.ref sc), .val (.ref ms), .val (.ref b1), .val (.int dp), .val (.int z14_0), .val (.ref b161), .val (.ref b1), .val (.ref b1)] [(.int (1 : Int32))])) (fun t k => XS.goto X185.here hx rfl (pc0 := 308) (pc' := 312) rfl (hb hby at_308) (by decide) (by decide) k) ?_
            have RTR172 : CHr Z own_EL s.vm h0 T185.vm T161.heap := R172.trans (CHv.at X185 hZ hEL R172.1)
            have RXR172 : CHr Z own_EL s.vm s.heap T185.vm T185.heap := by rw [hh, e185]; exact RTR172
            refine own_retW (Q := Q_own_law Z p0 p1 p2 p3 p4 p5 zc wP wD wN wI wO wM wG wY h0 n0) (C := room_1.cells) (N := room_1.slots) X185 hSn161 (by rw [e185]; omega) (v := some (.int (1 : Int32))) (fun h => by rw [hret] at h; cases h) hsync ?_ RXR172 (by decide) (by decide) (fun fs hr => retN X185 hx (t := .boolean) hret (by simp) (hb hby at_312) hr)
            show Q_own_law Z p0 p1 p2 p3 p4 p5 zc wP wD wN wI wO wM wG wY h0 n0 _ T185.vm T185.heap _
            rw [e185]
            exact ⟨rfl, N161⟩
          · -- no
            refine own_via (S' := T161.setTop (mkF m 259 #[.val (.int p0), .val (.int p1), .val (.int p2), .val (.int p3), .val (.int p4), .val (.int p5), .val (.int kk), .val (.ref d), .val (.ref sc), .val (.ref ms), .val (.ref b1), .val (.int dp), .val (.int z14_0), .val (.ref b161), .val (.ref b1), .unset] [])) (fun t k => XS.ifNo X161.here hx rfl (hb hby at_256) rfl ((if0 _ _).trans (feq hc256_181).1) k) ?_
            refine own_via (S' := T161.setTop (mkF m 261 #[.val (.int p0), .val (.int p1), .val (.int p2), .val (.int p3), .val (.int p4), .val (.int p5), .val (.int kk), .val (.ref d), .val (.ref sc), .val (.ref ms), .val (.ref b1), .val (.int dp), .val (.int z14_0), .val (.ref b161), .val (.ref b1), .unset] [(.ref b161)])) (fun t k => XS.aload X161.here hx rfl (hb hby at_259) rfl rfl k) ?_
            have hk187 : T161.heap.size ≤ T161.heap.size := by omega
            obtain ⟨cq187, kq187, q187a, q187b, q187c⟩ := isOf hZ rfl f161_0
            obtain ⟨_, _, ⟨T187, Lp187, kp187, np187⟩, -, X187, hS187, hgr187, ⟨Lc187, ⟨hQ187, R187q⟩, l187, y187, z187⟩, st187⟩ := X161.virtualBackS hx (y := mt9) (z := mt9) hown (mvT hZ (wd89 hw)) (mvT hZ (wd90 hw)) (notFace_of_selects (args := #[]) (mvT hZ (wd92 hw))) (mvT hZ (wd92 hw)) (mvT hZ (wd91 hw)) (by decide) (own_backW (SL := []) (W := 0) (own_adR l Z a0 hw [] b161 b156 b116 wI wO wD T161.heap n0 O173 zf_S_com_example_object_access_rules_objectaccessrules_Decision_INDETERMINATE zf_S_com_example_object_access_rules_objectaccessrules_StatusCode_OK zf_S_com_example_object_access_rules_objectaccessrules_Decision_DENY zf_E_wD zf_E_wO f161_4 f161_5 hD.2.2.2.2.1) hZ (wd93 hw) (wd18 hw) (by decide) (by decide) hEL R172.1 all0) q187a q187c (g := (mkF m 261 #[.val (.int p0), .val (.int p1), .val (.int p2), .val (.int p3), .val (.int p4), .val (.int p5), .val (.int kk), .val (.ref d), .val (.ref sc), .val (.ref ms), .val (.ref b1), .val (.int dp), .val (.int z14_0), .val (.ref b161), .val (.ref b1), .unset] [(.ref b161)])) rfl (by rw [hml]; rfl) (Steps.refl _) (argsL := []) (rest := []) (lenOf pd___Lcom_example_object_access_rules_objectaccessrules_Result__5924 rfl) rfl (by show 2 * 0 + _ ≤ _; exact Nat.le_of_eq rfl) (hb hby at_261) (fun _ _ => ⟨rfl, rfl, (by decide : 29 + 9 ≤ _), (by decide : 337 + 105 ≤ _)⟩)
            dsimp only [Pt.U, Pt.locs, Pt.cells, Pt.slots] at X187 l187 y187 z187 st187 hQ187 hS187 hgr187 R187q
            subst Lp187 kp187 np187
            obtain ⟨X187, hSn187, hZ, hown⟩ := rebS hSn161 hk187 X187 hS187 hgr187 hZ hown
            obtain ⟨b187, rfl, N187q, K187q, f187_0, f187_1, f187_2⟩ := hQ187
            have N187 := Fr.app N161 N187q
            have sz188 : T161.heap.size ≤ T187.heap.size := K187q.1
            have R189 : CHr Z own_EL s.vm h0 T187.vm T187.heap := R172.trans R187q
            have O190 : Old Z n0 T187.heap := O173.keep K187q all0
            have lt191_b187 : T187.heap.size > b187 := f187_0.lt
            have lt192_b187 : T187.heap.size > b187 := f187_1.lt
            have lt193_b187 : T187.heap.size > b187 := f187_2.lt
            refine own_tr (S' := T187.setTop (mkF m 264 #[.val (.int p0), .val (.int p1), .val (.int p2), .val (.int p3), .val (.int p4), .val (.int p5), .val (.int kk), .val (.ref d), .val (.ref sc), .val (.ref ms), .val (.ref b1), .val (.int dp), .val (.int z14_0), .val (.ref b161), .val (.ref b1), .unset] [(.ref b187)])) st187 ?_
            refine own_via (S' := T187.setTop (mkF m 266 #[.val (.int p0), .val (.int p1), .val (.int p2), .val (.int p3), .val (.int p4), .val (.int p5), .val (.int kk), .val (.ref d), .val (.ref sc), .val (.ref ms), .val (.ref b1), .val (.int dp), .val (.int z14_0), .val (.ref b187), .val (.ref b1), .unset] [])) (fun t k => XS.astore X187.here hx rfl (hb hby at_264) rfl rfl (l' := #[.val (.int p0), .val (.int p1), .val (.int p2), .val (.int p3), .val (.int p4), .val (.int p5), .val (.int kk), .val (.ref d), .val (.ref sc), .val (.ref ms), .val (.ref b1), .val (.int dp), .val (.int z14_0), .val (.ref b187), .val (.ref b1), .unset]) rfl k) ?_
            refine own_via (S' := T187.setTop (mkF m 268 #[.val (.int p0), .val (.int p1), .val (.int p2), .val (.int p3), .val (.int p4), .val (.int p5), .val (.int kk), .val (.ref d), .val (.ref sc), .val (.ref ms), .val (.ref b1), .val (.int dp), .val (.int z14_0), .val (.ref b187), .val (.ref b1), .unset] [(.int dp)])) (fun t k => XS.iload X187.here hx rfl (hb hby at_266) rfl k) ?_
            have hc268_194 : ¬ (dp = (0 : Int32)) := fun q => hc185_16 (by rw [q]; decide)
            refine own_via (S' := T187.setTop (mkF m 271 #[.val (.int p0), .val (.int p1), .val (.int p2), .val (.int p3), .val (.int p4), .val (.int p5), .val (.int kk), .val (.ref d), .val (.ref sc), .val (.ref ms), .val (.ref b1), .val (.int dp), .val (.int z14_0), .val (.ref b187), .val (.ref b1), .unset] [])) (fun t k => XS.ifNo X187.here hx rfl (hb hby at_268) rfl ((if0 _ _).trans (feq hc268_194).1) k) ?_
            refine own_via (S' := T187.setTop (mkF m 273 #[.val (.int p0), .val (.int p1), .val (.int p2), .val (.int p3), .val (.int p4), .val (.int p5), .val (.int kk), .val (.ref d), .val (.ref sc), .val (.ref ms), .val (.ref b1), .val (.int dp), .val (.int z14_0), .val (.ref b187), .val (.ref b1), .unset] [(.ref d)])) (fun t k => XS.aload X187.here hx rfl (hb hby at_271) rfl rfl k) ?_
            have cx195 : Sta Z T187.heap "com/example/object_access_rules/objectaccessrules/Decision" "NOT_APPLICABLE" "Lcom/example/object_access_rules/objectaccessrules/Decision;" (.ref wN) := zf_S_com_example_object_access_rules_objectaccessrules_Decision_NOT_APPLICABLE.ext O190.2
            obtain ⟨T196, X196, e196, st196⟩ := getS2 X187 hx hZ hown (host := "") (Or.inl (wd97 hw)) Via.refl rfl cx195 (g := (mkF m 273 #[.val (.int p0), .val (.int p1), .val (.int p2), .val (.int p3), .val (.int p4), .val (.int p5), .val (.int kk), .val (.ref d), .val (.ref sc), .val (.ref ms), .val (.ref b1), .val (.int dp), .val (.int z14_0), .val (.ref b187), .val (.ref b1), .unset] [(.ref d)])) rfl (hb hby at_273)
            refine own_via (S' := T196.setTop (mkF m 276 #[.val (.int p0), .val (.int p1), .val (.int p2), .val (.int p3), .val (.int p4), .val (.int p5), .val (.int kk), .val (.ref d), .val (.ref sc), .val (.ref ms), .val (.ref b1), .val (.int dp), .val (.int z14_0), .val (.ref b187), .val (.ref b1), .unset] [(.ref wN), (.ref d)])) st196 ?_
            refine own_via (S' := T196.setTop (mkF m 283 #[.val (.int p0), .val (.int p1), .val (.int p2), .val (.int p3), .val (.int p4), .val (.int p5), .val (.int kk), .val (.ref d), .val (.ref sc), .val (.ref ms), .val (.ref b1), .val (.int dp), .val (.int z14_0), .val (.ref b187), .val (.ref b1), .unset] [])) (fun t k => Jvm.RoadKit.acmp (g := (mkF m 276 #[.val (.int p0), .val (.int p1), .val (.int p2), .val (.int p3), .val (.int p4), .val (.int p5), .val (.int kk), .val (.ref d), .val (.ref sc), .val (.ref ms), .val (.ref b1), .val (.int dp), .val (.int z14_0), .val (.ref b187), .val (.ref b1), .unset] [(.ref wN), (.ref d)])) X196 hx rfl rfl rfl (pc0 := 276) (pc' := 283) (same := false) rfl (hb hby at_276) rfl (decide_eq_false fun q => hs199_39 (Value.ref.inj q)) (by decide) (by decide) k) ?_
            refine own_via (S' := T196.setTop (mkF m 285 #[.val (.int p0), .val (.int p1), .val (.int p2), .val (.int p3), .val (.int p4), .val (.int p5), .val (.int kk), .val (.ref d), .val (.ref sc), .val (.ref ms), .val (.ref b1), .val (.int dp), .val (.int z14_0), .val (.ref b187), .val (.ref b1), .unset] [(.ref b187)])) (fun t k => XS.aload X196.here hx rfl (hb hby at_283) rfl rfl k) ?_
            have cx198 : Fld Z T187.heap b116 "com/example/object_access_rules/objectaccessrules/Result" "below" "Lcom/example/object_access_rules/objectaccessrules/Result;" (.ref b1) := (((f116_5.keep K156q nin0).keep K161q nin0).keep K187q nin0)
            have cx199 : Fld Z T187.heap b1 "com/example/object_access_rules/objectaccessrules/Result" "below" "Lcom/example/object_access_rules/objectaccessrules/Result;" .null := (((((f5_4.keep K34q nin0).keep K116q nin0).keep K156q nin0).keep K161q nin0).keep K187q nin0)
            obtain ⟨cq197, kq197, q197a, q197b, q197c⟩ := isOf hZ e196 f187_0
            obtain ⟨_, _, ⟨T197, Lp197, kp197, np197⟩, -, X197, ⟨Lc197, hQ197, l197, y197, z197⟩, st197⟩ := X196.virtualBack hx (y := mt10) (z := mt10) hown (mvT hZ (wd84 hw)) (mvT hZ (wd85 hw)) (notFace_of_selects (args := #[]) (mvT hZ (wd87 hw))) (mvT hZ (wd87 hw)) (mvT hZ (wd86 hw)) (by decide) (backOf (W := 0) (own_og2 l Z a0 hw [] b187 b116 b1 T187.heap n0 O190 f187_2 cx198 cx199) hZ (wd88 hw) (wd18 hw) (by decide) (by decide)) q197a q197c (g := (mkF m 285 #[.val (.int p0), .val (.int p1), .val (.int p2), .val (.int p3), .val (.int p4), .val (.int p5), .val (.int kk), .val (.ref d), .val (.ref sc), .val (.ref ms), .val (.ref b1), .val (.int dp), .val (.int z14_0), .val (.ref b187), .val (.ref b1), .unset] [(.ref b187)])) rfl (by rw [hml]; rfl) (Steps.refl _) (argsL := []) (rest := []) (lenOf pd___Lcom_example_object_access_rules_objectaccessrules_Result__5924 rfl) rfl (by show 2 * 0 + _ ≤ _; exact Nat.le_of_eq rfl) (hb hby at_285) (fun _ _ => ⟨rfl, e196, (by decide : 38 + 0 ≤ _), (by decide : 442 + 0 ≤ _)⟩)
            dsimp only [Pt.U, Pt.locs, Pt.cells, Pt.slots] at X197 l197 y197 z197 st197 hQ197
            subst Lp197 kp197 np197
            obtain ⟨rfl, rfl, e197⟩ := hQ197
            try rw [List.append_nil] at X197
            refine own_tr (S' := T197.setTop (mkF m 288 #[.val (.int p0), .val (.int p1), .val (.int p2), .val (.int p3), .val (.int p4), .val (.int p5), .val (.int kk), .val (.ref d), .val (.ref sc), .val (.ref ms), .val (.ref b1), .val (.int dp), .val (.int z14_0), .val (.ref b187), .val (.ref b1), .unset] [(.ref b1)])) st197 ?_
            refine own_via (S' := T197.setTop (mkF m 290 #[.val (.int p0), .val (.int p1), .val (.int p2), .val (.int p3), .val (.int p4), .val (.int p5), .val (.int kk), .val (.ref d), .val (.ref sc), .val (.ref ms), .val (.ref b1), .val (.int dp), .val (.int z14_0), .val (.ref b187), .val (.ref b1), .val (.ref b1)] [])) (fun t k => XS.astore X197.here hx rfl (hb hby at_288) rfl rfl (l' := #[.val (.int p0), .val (.int p1), .val (.int p2), .val (.int p3), .val (.int p4), .val (.int p5), .val (.int kk), .val (.ref d), .val (.ref sc), .val (.ref ms), .val (.ref b1), .val (.int dp), .val (.int z14_0), .val (.ref b187), .val (.ref b1), .val (.ref b1)]) rfl k) ?_
            refine own_via (S' := T197.setTop (mkF m 292 #[.val (.int p0), .val (.int p1), .val (.int p2), .val (.int p3), .val (.int p4), .val (.int p5), .val (.int kk), .val (.ref d), .val (.ref sc), .val (.ref ms), .val (.ref b1), .val (.int dp), .val (.int z14_0), .val (.ref b187), .val (.ref b1), .val (.ref b1)] [(.ref b1)])) (fun t k => XS.aload X197.here hx rfl (hb hby at_290) rfl rfl k) ?_
            refine own_via (S' := T197.setTop (mkF m 294 #[.val (.int p0), .val (.int p1), .val (.int p2), .val (.int p3), .val (.int p4), .val (.int p5), .val (.int kk), .val (.ref d), .val (.ref sc), .val (.ref ms), .val (.ref b1), .val (.int dp), .val (.int z14_0), .val (.ref b187), .val (.ref b1), .val (.ref b1)] [(.ref b1), (.ref b1)])) (fun t k => XS.aload X197.here hx rfl (hb hby at_292) rfl rfl k) ?_
            refine own_via (S' := T197.setTop (mkF m 297 #[.val (.int p0), .val (.int p1), .val (.int p2), .val (.int p3), .val (.int p4), .val (.int p5), .val (.int kk), .val (.ref d), .val (.ref sc), .val (.ref ms), .val (.ref b1), .val (.int dp), .val (.int z14_0), .val (.ref b187), .val (.ref b1), .val (.ref b1)] [])) (fun t k => Jvm.RoadKit.acmp (g := (mkF m 294 #[.val (.int p0), .val (.int p1), .val (.int p2), .val (.int p3), .val (.int p4), .val (.int p5), .val (.int kk), .val (.ref d), .val (.ref sc), .val (.ref ms), .val (.ref b1), .val (.int dp), .val (.int z14_0), .val (.ref b187), .val (.ref b1), .val (.ref b1)] [(.ref b1), (.ref b1)])) X197 hx rfl rfl rfl (pc0 := 294) (pc' := 297) (same := true) rfl (hb hby at_294) rfl (decide_eq_true rfl) (by decide) (by decide) k) ?_
            refine own_via (S' := T197.setTop (mkF m 299 #[.val (.int p0), .val (.int p1), .val (.int p2), .val (.int p3), .val (.int p4), .val (.int p5), .val (.int kk), .val (.ref d), .val (.ref sc), .val (.ref ms), .val (.ref b1), .val (.int dp), .val (.int z14_0), .val (.ref b187), .val (.ref b1), .val (.ref b1)] [(.ref b1)])) (fun t k => XS.aload X197.here hx rfl (hb hby at_297) rfl rfl k) ?_
            have cx201 : Exa Z T187.heap b1 "com/example/object_access_rules/objectaccessrules/Result" := ((((cx117.keep K116q).keep K156q).keep K161q).keep K187q)
            obtain ⟨cq200, kq200, q200a, q200b, q200c⟩ := isOf hZ e197 cx201
            obtain ⟨_, _, ⟨T200, Lp200, kp200, np200⟩, -, X200, ⟨Lc200, hQ200, l200, y200, z200⟩, st200⟩ := X197.virtualBack hx (y := mt10) (z := mt10) hown (mvT hZ (wd84 hw)) (mvT hZ (wd85 hw)) (notFace_of_selects (args := #[]) (mvT hZ (wd87 hw))) (mvT hZ (wd87 hw)) (mvT hZ (wd86 hw)) (by decide) (backOf (W := 0) (own_og0 l Z a0 hw [] b1 T187.heap n0 O190 cx199) hZ (wd88 hw) (wd18 hw) (by decide) (by decide)) q200a q200c (g := (mkF m 299 #[.val (.int p0), .val (.int p1), .val (.int p2), .val (.int p3), .val (.int p4), .val (.int p5), .val (.int kk), .val (.ref d), .val (.ref sc), .val (.ref ms), .val (.ref b1), .val (.int dp), .val (.int z14_0), .val (.ref b187), .val (.ref b1), .val (.ref b1)] [(.ref b1)])) rfl (by rw [hml]; rfl) (Steps.refl _) (argsL := []) (rest := []) (lenOf pd___Lcom_example_object_access_rules_objectaccessrules_Result__5924 rfl) rfl (by show 2 * 0 + _ ≤ _; exact Nat.le_of_eq rfl) (hb hby at_299) (fun _ _ => ⟨rfl, e197, (by decide : 38 + 0 ≤ _), (by decide : 442 + 0 ≤ _)⟩)
            dsimp only [Pt.U, Pt.locs, Pt.cells, Pt.slots] at X200 l200 y200 z200 st200 hQ200
            subst Lp200 kp200 np200
            obtain ⟨rfl, rfl, e200⟩ := hQ200
            try rw [List.append_nil] at X200
            refine own_tr (S' := T200.setTop (mkF m 302 #[.val (.int p0), .val (.int p1), .val (.int p2), .val (.int p3), .val (.int p4), .val (.int p5), .val (.int kk), .val (.ref d), .val (.ref sc), .val (.ref ms), .val (.ref b1), .val (.int dp), .val (.int z14_0), .val (.ref b187), .val (.ref b1), .val (.ref b1)] [(.ref b1)])) st200 ?_
            refine own_via (S' := T200.setTop (mkF m 304 #[.val (.int p0), .val (.int p1), .val (.int p2), .val (.int p3), .val (.int p4), .val (.int p5), .val (.int kk), .val (.ref d), .val (.ref sc), .val (.ref ms), .val (.ref b1), .val (.int dp), .val (.int z14_0), .val (.ref b187), .val (.ref b1), .val (.ref b1)] [(.ref b1), (.ref b1)])) (fun t k => XS.aload X200.here hx rfl (hb hby at_302) rfl rfl k) ?_
            refine own_via (S' := T200.setTop (mkF m 307 #[.val (.int p0), .val (.int p1), .val (.int p2), .val (.int p3), .val (.int p4), .val (.int p5), .val (.int kk), .val (.ref d), .val (.ref sc), .val (.ref ms), .val (.ref b1), .val (.int dp), .val (.int z14_0), .val (.ref b187), .val (.ref b1), .val (.ref b1)] [])) (fun t k => Jvm.RoadKit.acmp (g := (mkF m 304 #[.val (.int p0), .val (.int p1), .val (.int p2), .val (.int p3), .val (.int p4), .val (.int p5), .val (.int kk), .val (.ref d), .val (.ref sc), .val (.ref ms), .val (.ref b1), .val (.int dp), .val (.int z14_0), .val (.ref b187), .val (.ref b1), .val (.ref b1)] [(.ref b1), (.ref b1)])) X200 hx rfl rfl rfl (pc0 := 304) (pc' := 307) (same := true) rfl (hb hby at_304) rfl (decide_eq_true rfl) (by decide) (by decide) k) ?_
            refine own_via (S' := T200.setTop (mkF m 308 #[.val (.int p0), .val (.int p1), .val (.int p2), .val (.int p3), .val (.int p4), .val (.int p5), .val (.int kk), .val (.ref d), .val (.ref sc), .val (.ref ms), .val (.ref b1), .val (.int dp), .val (.int z14_0), .val (.ref b187), .val (.ref b1), .val (.ref b1)] [(.int (1 : Int32))])) (fun t k => XS.iconst X200.here hx rfl (hb hby at_307) k) ?_
            refine own_via (S' := T200.setTop (mkF m 312 #[.val (.int p0), .val (.int p1), .val (.int p2), .val (.int p3), .val (.int p4), .val (.int p5), .val (.int kk), .val (.ref d), .val (.ref sc), .val (.ref ms), .val (.ref b1), .val (.int dp), .val (.int z14_0), .val (.ref b187), .val (.ref b1), .val (.ref b1)] [(.int (1 : Int32))])) (fun t k => XS.goto X200.here hx rfl (pc0 := 308) (pc' := 312) rfl (hb hby at_308) (by decide) (by decide) k) ?_
            have RTR189 : CHr Z own_EL s.vm h0 T200.vm T187.heap := R189.trans (CHv.at X200 hZ hEL R189.1)
            have RXR189 : CHr Z own_EL s.vm s.heap T200.vm T200.heap := by rw [hh, e200]; exact RTR189
            refine own_retW (Q := Q_own_law Z p0 p1 p2 p3 p4 p5 zc wP wD wN wI wO wM wG wY h0 n0) (C := room_1.cells) (N := room_1.slots) X200 hSn187 (by rw [e200]; omega) (v := some (.int (1 : Int32))) (fun h => by rw [hret] at h; cases h) hsync ?_ RXR189 (by decide) (by decide) (fun fs hr => retN X200 hx (t := .boolean) hret (by simp) (hb hby at_312) hr)
            show Q_own_law Z p0 p1 p2 p3 p4 p5 zc wP wD wN wI wO wM wG wY h0 n0 _ T200.vm T200.heap _
            rw [e200]
            exact ⟨rfl, N187⟩
        · -- no
          refine own_via (S' := T161.setTop (mkF m 233 #[.val (.int p0), .val (.int p1), .val (.int p2), .val (.int p3), .val (.int p4), .val (.int p5), .val (.int kk), .val (.ref d), .val (.ref sc), .val (.ref ms), .val (.ref b1), .val (.int dp), .val (.int z14_0), .val (.ref b161), .unset, .unset] [])) (fun t k => XS.icmpNo X161.here hx rfl (hb hby at_230) rfl (flt hc230_180).1 k) ?_
          refine own_via (S' := T161.setTop (mkF m 235 #[.val (.int p0), .val (.int p1), .val (.int p2), .val (.int p3), .val (.int p4), .val (.int p5), .val (.int kk), .val (.ref d), .val (.ref sc), .val (.ref ms), .val (.ref b1), .val (.int dp), .val (.int z14_0), .val (.ref b161), .unset, .unset] [(.ref b161)])) (fun t k => XS.aload X161.here hx rfl (hb hby at_233) rfl rfl k) ?_
          refine own_via (S' := T161.setTop (mkF m 237 #[.val (.int p0), .val (.int p1), .val (.int p2), .val (.int p3), .val (.int p4), .val (.int p5), .val (.int kk), .val (.ref d), .val (.ref sc), .val (.ref ms), .val (.ref b1), .val (.int dp), .val (.int z14_0), .val (.ref b161), .unset, .unset] [(.int p5), (.ref b161)])) (fun t k => XS.iload X161.here hx rfl (hb hby at_235) rfl k) ?_
          refine own_via (S' := T161.setTop (mkF m 240 #[.val (.int p0), .val (.int p1), .val (.int p2), .val (.int p3), .val (.int p4), .val (.int p5), .val (.int kk), .val (.ref d), .val (.ref sc), .val (.ref ms), .val (.ref b1), .val (.int dp), .val (.int z14_0), .val (.ref b161), .unset, .unset] [(.int (255 : Int32)), (.int p5), (.ref b161)])) (fun t k => XS.sipush X161.here hx rfl (hb hby at_237) k) ?_
          refine own_via (S' := T161.setTop (mkF m 241 #[.val (.int p0), .val (.int p1), .val (.int p2), .val (.int p3), .val (.int p4), .val (.int p5), .val (.int kk), .val (.ref d), .val (.ref sc), .val (.ref ms), .val (.ref b1), .val (.int dp), .val (.int z14_0), .val (.ref b161), .unset, .unset] [(.int (p5 &&& (255 : Int32))), (.ref b161)])) (fun t k => XS.iand X161.here hx rfl (hb hby at_240) rfl k) ?_
          refine own_via (S' := T161.setTop (mkF m 242 #[.val (.int p0), .val (.int p1), .val (.int p2), .val (.int p3), .val (.int p4), .val (.int p5), .val (.int kk), .val (.ref d), .val (.ref sc), .val (.ref ms), .val (.ref b1), .val (.int dp), .val (.int z14_0), .val (.ref b161), .unset, .unset] [(.int ((p5 &&& (255 : Int32)).toUInt32.toUInt16.toUInt32.toInt32)), (.ref b161)])) (fun t k => XS.i2c X161.here hx rfl (hb hby at_241) rfl k) ?_
          obtain ⟨ch3, hn_ch3⟩ : ∃ z : Int32, z = ((p5 &&& (255 : Int32)).toUInt32.toUInt16.toUInt32.toInt32) := ⟨_, rfl⟩
          rw [← hn_ch3]
          have rng_ch3 : ¬ ch3 < 0 ∧ ¬ (255 : Int32) < ch3 := by rw [hn_ch3]; exact own_and255 _
          obtain ⟨_, _, ⟨T202, Lp202, kp202, np202⟩, -, X202, ⟨Lc202, hQ202, l202, y202, z202⟩, st202⟩ := Jvm.LawKit.callS X161 hx (y := mt7) hown (mvT hZ (wd59 hw)) (mvT hZ (wd60 hw)) (mvT hZ (wd9 hw)) (mvT hZ (wd61 hw)) (by decide) (backOf (W := 1) (own_valueOf l Z a0 hw [] ch3 zc T161.heap n0 O173 zf_S_java_lang_String_COMPACT_STRINGS hzc rng_ch3) hZ (wd61 hw) (wd9 hw) (by decide) (by decide)) (g := (mkF m 242 #[.val (.int p0), .val (.int p1), .val (.int p2), .val (.int p3), .val (.int p4), .val (.int p5), .val (.int kk), .val (.ref d), .val (.ref sc), .val (.ref ms), .val (.ref b1), .val (.int dp), .val (.int z14_0), .val (.ref b161), .unset, .unset] [(.int ch3), (.ref b161)])) rfl (by rw [hml]; rfl) (argsL := [(.int ch3)]) (rest := [(.ref b161)]) (lenOf pd__C_Ljava_lang_String__1844 rfl) rfl (by show 2 * 0 + _ ≤ _; exact Nat.le_of_eq rfl) (hb hby at_242) (fun _ _ => ⟨rfl, rfl, (by decide : 29 + 2 ≤ _), (by decide : 337 + 5 ≤ _)⟩)
          dsimp only [Pt.U, Pt.locs, Pt.cells, Pt.slots] at X202 l202 y202 z202 st202 hQ202
          subst Lp202 kp202 np202
          obtain ⟨b202, rfl, N202q, K202q, f202_0⟩ := hQ202
          have N202 := Fr.app N161 N202q
          have sf202 : ∀ x ∈ ([] : List Addr), Safe Z own_EL T161.vm T161.heap x := sf0
          have sz203 : T161.heap.size ≤ T202.heap.size := K202q.1
          have R204 : CHr Z own_EL s.vm h0 T161.vm T202.heap := R172.trans (CHr.keep K202q sf202 R172.1)
          have O205 : Old Z n0 T202.heap := O173.keep K202q all0
          have lt206_b202 : T202.heap.size > b202 := f202_0.lt
          refine own_via (S' := T202.setTop (mkF m 245 #[.val (.int p0), .val (.int p1), .val (.int p2), .val (.int p3), .val (.int p4), .val (.int p5), .val (.int kk), .val (.ref d), .val (.ref sc), .val (.ref ms), .val (.ref b1), .val (.int dp), .val (.int z14_0), .val (.ref b161), .unset, .unset] [(.ref b202), (.ref b161)])) st202 ?_
          have cx208 : Exa Z T202.heap b161 "com/example/object_access_rules/objectaccessrules/Result" := (f161_0.keep K202q)
          have cx209 : Fld Z T202.heap b161 "com/example/object_access_rules/objectaccessrules/Result" "decision" "Lcom/example/object_access_rules/objectaccessrules/Decision;" (.ref d) := (f161_1.keep K202q nin0)
          have cx210 : Fld Z T202.heap b161 "com/example/object_access_rules/objectaccessrules/Result" "status" "Lcom/example/object_access_rules/objectaccessrules/StatusCode;" (.ref sc) := (f161_2.keep K202q nin0)
          have cx211 : Fld Z T202.heap b161 "com/example/object_access_rules/objectaccessrules/Result" "message" "Ljava/lang/String;" (.ref ms) := (f161_3.keep K202q nin0)
          have cx212 : Exa Z T202.heap d "com/example/object_access_rules/objectaccessrules/Decision" := ((cx166.keep K161q).keep K202q)
          have cx213 : Exa Z T202.heap sc "com/example/object_access_rules/objectaccessrules/StatusCode" := ((cx167.keep K161q).keep K202q)
          have cx214 : Exa Z T202.heap ms "java/lang/String" := ((cx168.keep K161q).keep K202q)
          have cx215 : Fld Z T202.heap ms "java/lang/String" "value" "[B" (.ref tm) := ((cx169.keep K161q nin0).keep K202q nin0)
          have cx216 : Arv Z T202.heap tm km .byte zl vsm (.int (0 : Int32)) := ((cx170.keep K161q nin0).keep K202q nin0)
          have hk207 : T161.heap.size ≤ T202.heap.size := by omega
          obtain ⟨cq207, kq207, q207a, q207b, q207c⟩ := isOf hZ rfl cx208
          obtain ⟨_, _, ⟨T207, Lp207, kp207, np207⟩, -, X207, hS207, hgr207, ⟨Lc207, ⟨hQ207, R207q⟩, l207, y207, z207⟩, st207⟩ := X202.virtualBackS hx (y := mt8) (z := mt8) hown (mvT hZ (wd76 hw)) (mvT hZ (wd77 hw)) (notFace_of_selects (args := #[]) (mvT hZ (wd79 hw))) (mvT hZ (wd79 hw)) (mvT hZ (wd78 hw)) (by decide) (own_backW (SL := []) (W := 0) (own_thrX l Z a0 hw [] b161 b202 d sc ms tm km zl vsm wI wO wN T202.heap n0 O205 zf_S_com_example_object_access_rules_objectaccessrules_Decision_INDETERMINATE zf_S_com_example_object_access_rules_objectaccessrules_StatusCode_OK zf_S_com_example_object_access_rules_objectaccessrules_Decision_NOT_APPLICABLE cx208 cx209 cx210 cx211 cx212 cx213 cx214 cx215 cx216 hs199_39 hcons) hZ (wd80 hw) (wd18 hw) (by decide) (by decide) hEL R204.1 all0) q207a q207c (g := (mkF m 245 #[.val (.int p0), .val (.int p1), .val (.int p2), .val (.int p3), .val (.int p4), .val (.int p5), .val (.int kk), .val (.ref d), .val (.ref sc), .val (.ref ms), .val (.ref b1), .val (.int dp), .val (.int z14_0), .val (.ref b161), .unset, .unset] [(.ref b202), (.ref b161)])) rfl (by rw [hml]; rfl) (Steps.refl _) (argsL := [(.ref b202)]) (rest := []) (lenOf pd__Ljava_lang_String__Lcom_example_object_access_rules_objectaccessrules_Result__7620 rfl) rfl (by show 2 * 0 + _ ≤ _; exact Nat.le_of_eq rfl) (hb hby at_245) (fun _ _ => ⟨rfl, rfl, (by decide : 31 + 7 ≤ _), (by decide : 342 + 101 ≤ _)⟩)
          dsimp only [Pt.U, Pt.locs, Pt.cells, Pt.slots] at X207 l207 y207 z207 st207 hQ207 hS207 hgr207 R207q
          subst Lp207 kp207 np207
          obtain ⟨X207, hSn207, hZ, hown⟩ := rebS hSn161 hk207 X207 hS207 hgr207 hZ hown
          obtain ⟨b207, rfl, N207q, K207q, f207_0, f207_1, f207_2, f207_3, f207_4, f207_5⟩ := hQ207
          have N207 := Fr.app N202 N207q
          have sz217 : T202.heap.size ≤ T207.heap.size := K207q.1
          have R218 : CHr Z own_EL s.vm h0 T207.vm T207.heap := R204.trans R207q
          have O219 : Old Z n0 T207.heap := O205.keep K207q all0
          have lt220_b207 : T207.heap.size > b207 := f207_0.lt
          have lt221_b207 : T207.heap.size > b207 := f207_1.lt
          have lt222_b207 : T207.heap.size > b207 := f207_2.lt
          have lt223_b207 : T207.heap.size > b207 := f207_3.lt
          have lt224_b207 : T207.heap.size > b207 := f207_4.lt
          have lt225_b207 : T207.heap.size > b207 := f207_5.lt
          refine own_tr (S' := T207.setTop (mkF m 248 #[.val (.int p0), .val (.int p1), .val (.int p2), .val (.int p3), .val (.int p4), .val (.int p5), .val (.int kk), .val (.ref d), .val (.ref sc), .val (.ref ms), .val (.ref b1), .val (.int dp), .val (.int z14_0), .val (.ref b161), .unset, .unset] [(.ref b207)])) st207 ?_
          refine own_via (S' := T207.setTop (mkF m 250 #[.val (.int p0), .val (.int p1), .val (.int p2), .val (.int p3), .val (.int p4), .val (.int p5), .val (.int kk), .val (.ref d), .val (.ref sc), .val (.ref ms), .val (.ref b1), .val (.int dp), .val (.int z14_0), .val (.ref b207), .unset, .unset] [])) (fun t k => XS.astore X207.here hx rfl (hb hby at_248) rfl rfl (l' := #[.val (.int p0), .val (.int p1), .val (.int p2), .val (.int p3), .val (.int p4), .val (.int p5), .val (.int kk), .val (.ref d), .val (.ref sc), .val (.ref ms), .val (.ref b1), .val (.int dp), .val (.int z14_0), .val (.ref b207), .unset, .unset]) rfl k) ?_
          refine own_via (S' := T207.setTop (mkF m 252 #[.val (.int p0), .val (.int p1), .val (.int p2), .val (.int p3), .val (.int p4), .val (.int p5), .val (.int kk), .val (.ref d), .val (.ref sc), .val (.ref ms), .val (.ref b1), .val (.int dp), .val (.int z14_0), .val (.ref b207), .unset, .unset] [(.ref b1)])) (fun t k => XS.aload X207.here hx rfl (hb hby at_250) rfl rfl k) ?_
          refine own_via (S' := T207.setTop (mkF m 254 #[.val (.int p0), .val (.int p1), .val (.int p2), .val (.int p3), .val (.int p4), .val (.int p5), .val (.int kk), .val (.ref d), .val (.ref sc), .val (.ref ms), .val (.ref b1), .val (.int dp), .val (.int z14_0), .val (.ref b207), .val (.ref b1), .unset] [])) (fun t k => XS.astore X207.here hx rfl (hb hby at_252) rfl rfl (l' := #[.val (.int p0), .val (.int p1), .val (.int p2), .val (.int p3), .val (.int p4), .val (.int p5), .val (.int kk), .val (.ref d), .val (.ref sc), .val (.ref ms), .val (.ref b1), .val (.int dp), .val (.int z14_0), .val (.ref b207), .val (.ref b1), .unset]) rfl k) ?_
          refine own_via (S' := T207.setTop (mkF m 256 #[.val (.int p0), .val (.int p1), .val (.int p2), .val (.int p3), .val (.int p4), .val (.int p5), .val (.int kk), .val (.ref d), .val (.ref sc), .val (.ref ms), .val (.ref b1), .val (.int dp), .val (.int z14_0), .val (.ref b207), .val (.ref b1), .unset] [(.int z14_0)])) (fun t k => XS.iload X207.here hx rfl (hb hby at_254) rfl k) ?_
          by_cases hc256_226 : z14_0 = (0 : Int32)
          · -- yes
            refine own_via (S' := T207.setTop (mkF m 283 #[.val (.int p0), .val (.int p1), .val (.int p2), .val (.int p3), .val (.int p4), .val (.int p5), .val (.int kk), .val (.ref d), .val (.ref sc), .val (.ref ms), .val (.ref b1), .val (.int dp), .val (.int z14_0), .val (.ref b207), .val (.ref b1), .unset] [])) (fun t k => XS.ifYes X207.here hx rfl (pc0 := 256) (pc' := 283) rfl (hb hby at_256) rfl ((if0 _ _).trans (teq hc256_226).1) (by decide) (by decide) k) ?_
            refine own_via (S' := T207.setTop (mkF m 285 #[.val (.int p0), .val (.int p1), .val (.int p2), .val (.int p3), .val (.int p4), .val (.int p5), .val (.int kk), .val (.ref d), .val (.ref sc), .val (.ref ms), .val (.ref b1), .val (.int dp), .val (.int z14_0), .val (.ref b207), .val (.ref b1), .unset] [(.ref b207)])) (fun t k => XS.aload X207.here hx rfl (hb hby at_283) rfl rfl k) ?_
            have cx228 : Fld Z T207.heap b161 "com/example/object_access_rules/objectaccessrules/Result" "below" "Lcom/example/object_access_rules/objectaccessrules/Result;" (.ref b116) := ((f161_5.keep K202q nin0).keep K207q nin0)
            have cx229 : Fld Z T207.heap b116 "com/example/object_access_rules/objectaccessrules/Result" "below" "Lcom/example/object_access_rules/objectaccessrules/Result;" (.ref b1) := ((((f116_5.keep K156q nin0).keep K161q nin0).keep K202q nin0).keep K207q nin0)
            have cx230 : Fld Z T207.heap b1 "com/example/object_access_rules/objectaccessrules/Result" "below" "Lcom/example/object_access_rules/objectaccessrules/Result;" .null := ((((((f5_4.keep K34q nin0).keep K116q nin0).keep K156q nin0).keep K161q nin0).keep K202q nin0).keep K207q nin0)
            obtain ⟨cq227, kq227, q227a, q227b, q227c⟩ := isOf hZ rfl f207_0
            obtain ⟨_, _, ⟨T227, Lp227, kp227, np227⟩, -, X227, ⟨Lc227, hQ227, l227, y227, z227⟩, st227⟩ := X207.virtualBack hx (y := mt10) (z := mt10) hown (mvT hZ (wd84 hw)) (mvT hZ (wd85 hw)) (notFace_of_selects (args := #[]) (mvT hZ (wd87 hw))) (mvT hZ (wd87 hw)) (mvT hZ (wd86 hw)) (by decide) (backOf (W := 0) (own_og3 l Z a0 hw [] b207 b161 b116 b1 T207.heap n0 O219 f207_5 cx228 cx229 cx230) hZ (wd88 hw) (wd18 hw) (by decide) (by decide)) q227a q227c (g := (mkF m 285 #[.val (.int p0), .val (.int p1), .val (.int p2), .val (.int p3), .val (.int p4), .val (.int p5), .val (.int kk), .val (.ref d), .val (.ref sc), .val (.ref ms), .val (.ref b1), .val (.int dp), .val (.int z14_0), .val (.ref b207), .val (.ref b1), .unset] [(.ref b207)])) rfl (by rw [hml]; rfl) (Steps.refl _) (argsL := []) (rest := []) (lenOf pd___Lcom_example_object_access_rules_objectaccessrules_Result__5924 rfl) rfl (by show 2 * 0 + _ ≤ _; exact Nat.le_of_eq rfl) (hb hby at_285) (fun _ _ => ⟨rfl, rfl, (by decide : 38 + 0 ≤ _), (by decide : 443 + 0 ≤ _)⟩)
            dsimp only [Pt.U, Pt.locs, Pt.cells, Pt.slots] at X227 l227 y227 z227 st227 hQ227
            subst Lp227 kp227 np227
            obtain ⟨rfl, rfl, e227⟩ := hQ227
            try rw [List.append_nil] at X227
            refine own_tr (S' := T227.setTop (mkF m 288 #[.val (.int p0), .val (.int p1), .val (.int p2), .val (.int p3), .val (.int p4), .val (.int p5), .val (.int kk), .val (.ref d), .val (.ref sc), .val (.ref ms), .val (.ref b1), .val (.int dp), .val (.int z14_0), .val (.ref b207), .val (.ref b1), .unset] [(.ref b1)])) st227 ?_
            refine own_via (S' := T227.setTop (mkF m 290 #[.val (.int p0), .val (.int p1), .val (.int p2), .val (.int p3), .val (.int p4), .val (.int p5), .val (.int kk), .val (.ref d), .val (.ref sc), .val (.ref ms), .val (.ref b1), .val (.int dp), .val (.int z14_0), .val (.ref b207), .val (.ref b1), .val (.ref b1)] [])) (fun t k => XS.astore X227.here hx rfl (hb hby at_288) rfl rfl (l' := #[.val (.int p0), .val (.int p1), .val (.int p2), .val (.int p3), .val (.int p4), .val (.int p5), .val (.int kk), .val (.ref d), .val (.ref sc), .val (.ref ms), .val (.ref b1), .val (.int dp), .val (.int z14_0), .val (.ref b207), .val (.ref b1), .val (.ref b1)]) rfl k) ?_
            refine own_via (S' := T227.setTop (mkF m 292 #[.val (.int p0), .val (.int p1), .val (.int p2), .val (.int p3), .val (.int p4), .val (.int p5), .val (.int kk), .val (.ref d), .val (.ref sc), .val (.ref ms), .val (.ref b1), .val (.int dp), .val (.int z14_0), .val (.ref b207), .val (.ref b1), .val (.ref b1)] [(.ref b1)])) (fun t k => XS.aload X227.here hx rfl (hb hby at_290) rfl rfl k) ?_
            refine own_via (S' := T227.setTop (mkF m 294 #[.val (.int p0), .val (.int p1), .val (.int p2), .val (.int p3), .val (.int p4), .val (.int p5), .val (.int kk), .val (.ref d), .val (.ref sc), .val (.ref ms), .val (.ref b1), .val (.int dp), .val (.int z14_0), .val (.ref b207), .val (.ref b1), .val (.ref b1)] [(.ref b1), (.ref b1)])) (fun t k => XS.aload X227.here hx rfl (hb hby at_292) rfl rfl k) ?_
            refine own_via (S' := T227.setTop (mkF m 297 #[.val (.int p0), .val (.int p1), .val (.int p2), .val (.int p3), .val (.int p4), .val (.int p5), .val (.int kk), .val (.ref d), .val (.ref sc), .val (.ref ms), .val (.ref b1), .val (.int dp), .val (.int z14_0), .val (.ref b207), .val (.ref b1), .val (.ref b1)] [])) (fun t k => Jvm.RoadKit.acmp (g := (mkF m 294 #[.val (.int p0), .val (.int p1), .val (.int p2), .val (.int p3), .val (.int p4), .val (.int p5), .val (.int kk), .val (.ref d), .val (.ref sc), .val (.ref ms), .val (.ref b1), .val (.int dp), .val (.int z14_0), .val (.ref b207), .val (.ref b1), .val (.ref b1)] [(.ref b1), (.ref b1)])) X227 hx rfl rfl rfl (pc0 := 294) (pc' := 297) (same := true) rfl (hb hby at_294) rfl (decide_eq_true rfl) (by decide) (by decide) k) ?_
            refine own_via (S' := T227.setTop (mkF m 299 #[.val (.int p0), .val (.int p1), .val (.int p2), .val (.int p3), .val (.int p4), .val (.int p5), .val (.int kk), .val (.ref d), .val (.ref sc), .val (.ref ms), .val (.ref b1), .val (.int dp), .val (.int z14_0), .val (.ref b207), .val (.ref b1), .val (.ref b1)] [(.ref b1)])) (fun t k => XS.aload X227.here hx rfl (hb hby at_297) rfl rfl k) ?_
            have cx232 : Exa Z T207.heap b1 "com/example/object_access_rules/objectaccessrules/Result" := (((((cx117.keep K116q).keep K156q).keep K161q).keep K202q).keep K207q)
            obtain ⟨cq231, kq231, q231a, q231b, q231c⟩ := isOf hZ e227 cx232
            obtain ⟨_, _, ⟨T231, Lp231, kp231, np231⟩, -, X231, ⟨Lc231, hQ231, l231, y231, z231⟩, st231⟩ := X227.virtualBack hx (y := mt10) (z := mt10) hown (mvT hZ (wd84 hw)) (mvT hZ (wd85 hw)) (notFace_of_selects (args := #[]) (mvT hZ (wd87 hw))) (mvT hZ (wd87 hw)) (mvT hZ (wd86 hw)) (by decide) (backOf (W := 0) (own_og0 l Z a0 hw [] b1 T207.heap n0 O219 cx230) hZ (wd88 hw) (wd18 hw) (by decide) (by decide)) q231a q231c (g := (mkF m 299 #[.val (.int p0), .val (.int p1), .val (.int p2), .val (.int p3), .val (.int p4), .val (.int p5), .val (.int kk), .val (.ref d), .val (.ref sc), .val (.ref ms), .val (.ref b1), .val (.int dp), .val (.int z14_0), .val (.ref b207), .val (.ref b1), .val (.ref b1)] [(.ref b1)])) rfl (by rw [hml]; rfl) (Steps.refl _) (argsL := []) (rest := []) (lenOf pd___Lcom_example_object_access_rules_objectaccessrules_Result__5924 rfl) rfl (by show 2 * 0 + _ ≤ _; exact Nat.le_of_eq rfl) (hb hby at_299) (fun _ _ => ⟨rfl, e227, (by decide : 38 + 0 ≤ _), (by decide : 443 + 0 ≤ _)⟩)
            dsimp only [Pt.U, Pt.locs, Pt.cells, Pt.slots] at X231 l231 y231 z231 st231 hQ231
            subst Lp231 kp231 np231
            obtain ⟨rfl, rfl, e231⟩ := hQ231
            try rw [List.append_nil] at X231
            refine own_tr (S' := T231.setTop (mkF m 302 #[.val (.int p0), .val (.int p1), .val (.int p2), .val (.int p3), .val (.int p4), .val (.int p5), .val (.int kk), .val (.ref d), .val (.ref sc), .val (.ref ms), .val (.ref b1), .val (.int dp), .val (.int z14_0), .val (.ref b207), .val (.ref b1), .val (.ref b1)] [(.ref b1)])) st231 ?_
            refine own_via (S' := T231.setTop (mkF m 304 #[.val (.int p0), .val (.int p1), .val (.int p2), .val (.int p3), .val (.int p4), .val (.int p5), .val (.int kk), .val (.ref d), .val (.ref sc), .val (.ref ms), .val (.ref b1), .val (.int dp), .val (.int z14_0), .val (.ref b207), .val (.ref b1), .val (.ref b1)] [(.ref b1), (.ref b1)])) (fun t k => XS.aload X231.here hx rfl (hb hby at_302) rfl rfl k) ?_
            refine own_via (S' := T231.setTop (mkF m 307 #[.val (.int p0), .val (.int p1), .val (.int p2), .val (.int p3), .val (.int p4), .val (.int p5), .val (.int kk), .val (.ref d), .val (.ref sc), .val (.ref ms), .val (.ref b1), .val (.int dp), .val (.int z14_0), .val (.ref b207), .val (.ref b1), .val (.ref b1)] [])) (fun t k => Jvm.RoadKit.acmp (g := (mkF m 304 #[.val (.int p0), .val (.int p1), .val (.int p2), .val (.int p3), .val (.int p4), .val (.int p5), .val (.int kk), .val (.ref d), .val (.ref sc), .val (.ref ms), .val (.ref b1), .val (.int dp), .val (.int z14_0), .val (.ref b207), .val (.ref b1), .val (.ref b1)] [(.ref b1), (.ref b1)])) X231 hx rfl rfl rfl (pc0 := 304) (pc' := 307) (same := true) rfl (hb hby at_304) rfl (decide_eq_true rfl) (by decide) (by decide) k) ?_
            refine own_via (S' := T231.setTop (mkF m 308 #[.val (.int p0), .val (.int p1), .val (.int p2), .val (.int p3), .val (.int p4), .val (.int p5), .val (.int kk), .val (.ref d), .val (.ref sc), .val (.ref ms), .val (.ref b1), .val (.int dp), .val (.int z14_0), .val (.ref b207), .val (.ref b1), .val (.ref b1)] [(.int (1 : Int32))])) (fun t k => XS.iconst X231.here hx rfl (hb hby at_307) k) ?_
            refine own_via (S' := T231.setTop (mkF m 312 #[.val (.int p0), .val (.int p1), .val (.int p2), .val (.int p3), .val (.int p4), .val (.int p5), .val (.int kk), .val (.ref d), .val (.ref sc), .val (.ref ms), .val (.ref b1), .val (.int dp), .val (.int z14_0), .val (.ref b207), .val (.ref b1), .val (.ref b1)] [(.int (1 : Int32))])) (fun t k => XS.goto X231.here hx rfl (pc0 := 308) (pc' := 312) rfl (hb hby at_308) (by decide) (by decide) k) ?_
            have RTR218 : CHr Z own_EL s.vm h0 T231.vm T207.heap := R218.trans (CHv.at X231 hZ hEL R218.1)
            have RXR218 : CHr Z own_EL s.vm s.heap T231.vm T231.heap := by rw [hh, e231]; exact RTR218
            refine own_retW (Q := Q_own_law Z p0 p1 p2 p3 p4 p5 zc wP wD wN wI wO wM wG wY h0 n0) (C := room_1.cells) (N := room_1.slots) X231 hSn207 (by rw [e231]; omega) (v := some (.int (1 : Int32))) (fun h => by rw [hret] at h; cases h) hsync ?_ RXR218 (by decide) (by decide) (fun fs hr => retN X231 hx (t := .boolean) hret (by simp) (hb hby at_312) hr)
            show Q_own_law Z p0 p1 p2 p3 p4 p5 zc wP wD wN wI wO wM wG wY h0 n0 _ T231.vm T231.heap _
            rw [e231]
            exact ⟨rfl, N207⟩
          · -- no
            refine own_via (S' := T207.setTop (mkF m 259 #[.val (.int p0), .val (.int p1), .val (.int p2), .val (.int p3), .val (.int p4), .val (.int p5), .val (.int kk), .val (.ref d), .val (.ref sc), .val (.ref ms), .val (.ref b1), .val (.int dp), .val (.int z14_0), .val (.ref b207), .val (.ref b1), .unset] [])) (fun t k => XS.ifNo X207.here hx rfl (hb hby at_256) rfl ((if0 _ _).trans (feq hc256_226).1) k) ?_
            refine own_via (S' := T207.setTop (mkF m 261 #[.val (.int p0), .val (.int p1), .val (.int p2), .val (.int p3), .val (.int p4), .val (.int p5), .val (.int kk), .val (.ref d), .val (.ref sc), .val (.ref ms), .val (.ref b1), .val (.int dp), .val (.int z14_0), .val (.ref b207), .val (.ref b1), .unset] [(.ref b207)])) (fun t k => XS.aload X207.here hx rfl (hb hby at_259) rfl rfl k) ?_
            have hk233 : T207.heap.size ≤ T207.heap.size := by omega
            obtain ⟨cq233, kq233, q233a, q233b, q233c⟩ := isOf hZ rfl f207_0
            obtain ⟨_, _, ⟨T233, Lp233, kp233, np233⟩, -, X233, hS233, hgr233, ⟨Lc233, ⟨hQ233, R233q⟩, l233, y233, z233⟩, st233⟩ := X207.virtualBackS hx (y := mt9) (z := mt9) hown (mvT hZ (wd89 hw)) (mvT hZ (wd90 hw)) (notFace_of_selects (args := #[]) (mvT hZ (wd92 hw))) (mvT hZ (wd92 hw)) (mvT hZ (wd91 hw)) (by decide) (own_backW (SL := []) (W := 0) (own_adR l Z a0 hw [] b207 b202 b161 wI wO wD T207.heap n0 O219 zf_S_com_example_object_access_rules_objectaccessrules_Decision_INDETERMINATE zf_S_com_example_object_access_rules_objectaccessrules_StatusCode_OK zf_S_com_example_object_access_rules_objectaccessrules_Decision_DENY zf_E_wD zf_E_wO f207_4 f207_5 hD.2.2.2.2.1) hZ (wd93 hw) (wd18 hw) (by decide) (by decide) hEL R218.1 all0) q233a q233c (g := (mkF m 261 #[.val (.int p0), .val (.int p1), .val (.int p2), .val (.int p3), .val (.int p4), .val (.int p5), .val (.int kk), .val (.ref d), .val (.ref sc), .val (.ref ms), .val (.ref b1), .val (.int dp), .val (.int z14_0), .val (.ref b207), .val (.ref b1), .unset] [(.ref b207)])) rfl (by rw [hml]; rfl) (Steps.refl _) (argsL := []) (rest := []) (lenOf pd___Lcom_example_object_access_rules_objectaccessrules_Result__5924 rfl) rfl (by show 2 * 0 + _ ≤ _; exact Nat.le_of_eq rfl) (hb hby at_261) (fun _ _ => ⟨rfl, rfl, (by decide : 38 + 9 ≤ _), (by decide : 443 + 105 ≤ _)⟩)
            dsimp only [Pt.U, Pt.locs, Pt.cells, Pt.slots] at X233 l233 y233 z233 st233 hQ233 hS233 hgr233 R233q
            subst Lp233 kp233 np233
            obtain ⟨X233, hSn233, hZ, hown⟩ := rebS hSn207 hk233 X233 hS233 hgr233 hZ hown
            obtain ⟨b233, rfl, N233q, K233q, f233_0, f233_1, f233_2⟩ := hQ233
            have N233 := Fr.app N207 N233q
            have sz234 : T207.heap.size ≤ T233.heap.size := K233q.1
            have R235 : CHr Z own_EL s.vm h0 T233.vm T233.heap := R218.trans R233q
            have O236 : Old Z n0 T233.heap := O219.keep K233q all0
            have lt237_b233 : T233.heap.size > b233 := f233_0.lt
            have lt238_b233 : T233.heap.size > b233 := f233_1.lt
            have lt239_b233 : T233.heap.size > b233 := f233_2.lt
            refine own_tr (S' := T233.setTop (mkF m 264 #[.val (.int p0), .val (.int p1), .val (.int p2), .val (.int p3), .val (.int p4), .val (.int p5), .val (.int kk), .val (.ref d), .val (.ref sc), .val (.ref ms), .val (.ref b1), .val (.int dp), .val (.int z14_0), .val (.ref b207), .val (.ref b1), .unset] [(.ref b233)])) st233 ?_
            refine own_via (S' := T233.setTop (mkF m 266 #[.val (.int p0), .val (.int p1), .val (.int p2), .val (.int p3), .val (.int p4), .val (.int p5), .val (.int kk), .val (.ref d), .val (.ref sc), .val (.ref ms), .val (.ref b1), .val (.int dp), .val (.int z14_0), .val (.ref b233), .val (.ref b1), .unset] [])) (fun t k => XS.astore X233.here hx rfl (hb hby at_264) rfl rfl (l' := #[.val (.int p0), .val (.int p1), .val (.int p2), .val (.int p3), .val (.int p4), .val (.int p5), .val (.int kk), .val (.ref d), .val (.ref sc), .val (.ref ms), .val (.ref b1), .val (.int dp), .val (.int z14_0), .val (.ref b233), .val (.ref b1), .unset]) rfl k) ?_
            refine own_via (S' := T233.setTop (mkF m 268 #[.val (.int p0), .val (.int p1), .val (.int p2), .val (.int p3), .val (.int p4), .val (.int p5), .val (.int kk), .val (.ref d), .val (.ref sc), .val (.ref ms), .val (.ref b1), .val (.int dp), .val (.int z14_0), .val (.ref b233), .val (.ref b1), .unset] [(.int dp)])) (fun t k => XS.iload X233.here hx rfl (hb hby at_266) rfl k) ?_
            have hc268_240 : ¬ (dp = (0 : Int32)) := fun q => hc185_16 (by rw [q]; decide)
            refine own_via (S' := T233.setTop (mkF m 271 #[.val (.int p0), .val (.int p1), .val (.int p2), .val (.int p3), .val (.int p4), .val (.int p5), .val (.int kk), .val (.ref d), .val (.ref sc), .val (.ref ms), .val (.ref b1), .val (.int dp), .val (.int z14_0), .val (.ref b233), .val (.ref b1), .unset] [])) (fun t k => XS.ifNo X233.here hx rfl (hb hby at_268) rfl ((if0 _ _).trans (feq hc268_240).1) k) ?_
            refine own_via (S' := T233.setTop (mkF m 273 #[.val (.int p0), .val (.int p1), .val (.int p2), .val (.int p3), .val (.int p4), .val (.int p5), .val (.int kk), .val (.ref d), .val (.ref sc), .val (.ref ms), .val (.ref b1), .val (.int dp), .val (.int z14_0), .val (.ref b233), .val (.ref b1), .unset] [(.ref d)])) (fun t k => XS.aload X233.here hx rfl (hb hby at_271) rfl rfl k) ?_
            have cx241 : Sta Z T233.heap "com/example/object_access_rules/objectaccessrules/Decision" "NOT_APPLICABLE" "Lcom/example/object_access_rules/objectaccessrules/Decision;" (.ref wN) := zf_S_com_example_object_access_rules_objectaccessrules_Decision_NOT_APPLICABLE.ext O236.2
            obtain ⟨T242, X242, e242, st242⟩ := getS2 X233 hx hZ hown (host := "") (Or.inl (wd97 hw)) Via.refl rfl cx241 (g := (mkF m 273 #[.val (.int p0), .val (.int p1), .val (.int p2), .val (.int p3), .val (.int p4), .val (.int p5), .val (.int kk), .val (.ref d), .val (.ref sc), .val (.ref ms), .val (.ref b1), .val (.int dp), .val (.int z14_0), .val (.ref b233), .val (.ref b1), .unset] [(.ref d)])) rfl (hb hby at_273)
            refine own_via (S' := T242.setTop (mkF m 276 #[.val (.int p0), .val (.int p1), .val (.int p2), .val (.int p3), .val (.int p4), .val (.int p5), .val (.int kk), .val (.ref d), .val (.ref sc), .val (.ref ms), .val (.ref b1), .val (.int dp), .val (.int z14_0), .val (.ref b233), .val (.ref b1), .unset] [(.ref wN), (.ref d)])) st242 ?_
            refine own_via (S' := T242.setTop (mkF m 283 #[.val (.int p0), .val (.int p1), .val (.int p2), .val (.int p3), .val (.int p4), .val (.int p5), .val (.int kk), .val (.ref d), .val (.ref sc), .val (.ref ms), .val (.ref b1), .val (.int dp), .val (.int z14_0), .val (.ref b233), .val (.ref b1), .unset] [])) (fun t k => Jvm.RoadKit.acmp (g := (mkF m 276 #[.val (.int p0), .val (.int p1), .val (.int p2), .val (.int p3), .val (.int p4), .val (.int p5), .val (.int kk), .val (.ref d), .val (.ref sc), .val (.ref ms), .val (.ref b1), .val (.int dp), .val (.int z14_0), .val (.ref b233), .val (.ref b1), .unset] [(.ref wN), (.ref d)])) X242 hx rfl rfl rfl (pc0 := 276) (pc' := 283) (same := false) rfl (hb hby at_276) rfl (decide_eq_false fun q => hs199_39 (Value.ref.inj q)) (by decide) (by decide) k) ?_
            refine own_via (S' := T242.setTop (mkF m 285 #[.val (.int p0), .val (.int p1), .val (.int p2), .val (.int p3), .val (.int p4), .val (.int p5), .val (.int kk), .val (.ref d), .val (.ref sc), .val (.ref ms), .val (.ref b1), .val (.int dp), .val (.int z14_0), .val (.ref b233), .val (.ref b1), .unset] [(.ref b233)])) (fun t k => XS.aload X242.here hx rfl (hb hby at_283) rfl rfl k) ?_
            have cx244 : Fld Z T233.heap b161 "com/example/object_access_rules/objectaccessrules/Result" "below" "Lcom/example/object_access_rules/objectaccessrules/Result;" (.ref b116) := (((f161_5.keep K202q nin0).keep K207q nin0).keep K233q nin0)
            have cx245 : Fld Z T233.heap b116 "com/example/object_access_rules/objectaccessrules/Result" "below" "Lcom/example/object_access_rules/objectaccessrules/Result;" (.ref b1) := (((((f116_5.keep K156q nin0).keep K161q nin0).keep K202q nin0).keep K207q nin0).keep K233q nin0)
            have cx246 : Fld Z T233.heap b1 "com/example/object_access_rules/objectaccessrules/Result" "below" "Lcom/example/object_access_rules/objectaccessrules/Result;" .null := (((((((f5_4.keep K34q nin0).keep K116q nin0).keep K156q nin0).keep K161q nin0).keep K202q nin0).keep K207q nin0).keep K233q nin0)
            obtain ⟨cq243, kq243, q243a, q243b, q243c⟩ := isOf hZ e242 f233_0
            obtain ⟨_, _, ⟨T243, Lp243, kp243, np243⟩, -, X243, ⟨Lc243, hQ243, l243, y243, z243⟩, st243⟩ := X242.virtualBack hx (y := mt10) (z := mt10) hown (mvT hZ (wd84 hw)) (mvT hZ (wd85 hw)) (notFace_of_selects (args := #[]) (mvT hZ (wd87 hw))) (mvT hZ (wd87 hw)) (mvT hZ (wd86 hw)) (by decide) (backOf (W := 0) (own_og3 l Z a0 hw [] b233 b161 b116 b1 T233.heap n0 O236 f233_2 cx244 cx245 cx246) hZ (wd88 hw) (wd18 hw) (by decide) (by decide)) q243a q243c (g := (mkF m 285 #[.val (.int p0), .val (.int p1), .val (.int p2), .val (.int p3), .val (.int p4), .val (.int p5), .val (.int kk), .val (.ref d), .val (.ref sc), .val (.ref ms), .val (.ref b1), .val (.int dp), .val (.int z14_0), .val (.ref b233), .val (.ref b1), .unset] [(.ref b233)])) rfl (by rw [hml]; rfl) (Steps.refl _) (argsL := []) (rest := []) (lenOf pd___Lcom_example_object_access_rules_objectaccessrules_Result__5924 rfl) rfl (by show 2 * 0 + _ ≤ _; exact Nat.le_of_eq rfl) (hb hby at_285) (fun _ _ => ⟨rfl, e242, (by decide : 47 + 0 ≤ _), (by decide : 548 + 0 ≤ _)⟩)
            dsimp only [Pt.U, Pt.locs, Pt.cells, Pt.slots] at X243 l243 y243 z243 st243 hQ243
            subst Lp243 kp243 np243
            obtain ⟨rfl, rfl, e243⟩ := hQ243
            try rw [List.append_nil] at X243
            refine own_tr (S' := T243.setTop (mkF m 288 #[.val (.int p0), .val (.int p1), .val (.int p2), .val (.int p3), .val (.int p4), .val (.int p5), .val (.int kk), .val (.ref d), .val (.ref sc), .val (.ref ms), .val (.ref b1), .val (.int dp), .val (.int z14_0), .val (.ref b233), .val (.ref b1), .unset] [(.ref b1)])) st243 ?_
            refine own_via (S' := T243.setTop (mkF m 290 #[.val (.int p0), .val (.int p1), .val (.int p2), .val (.int p3), .val (.int p4), .val (.int p5), .val (.int kk), .val (.ref d), .val (.ref sc), .val (.ref ms), .val (.ref b1), .val (.int dp), .val (.int z14_0), .val (.ref b233), .val (.ref b1), .val (.ref b1)] [])) (fun t k => XS.astore X243.here hx rfl (hb hby at_288) rfl rfl (l' := #[.val (.int p0), .val (.int p1), .val (.int p2), .val (.int p3), .val (.int p4), .val (.int p5), .val (.int kk), .val (.ref d), .val (.ref sc), .val (.ref ms), .val (.ref b1), .val (.int dp), .val (.int z14_0), .val (.ref b233), .val (.ref b1), .val (.ref b1)]) rfl k) ?_
            refine own_via (S' := T243.setTop (mkF m 292 #[.val (.int p0), .val (.int p1), .val (.int p2), .val (.int p3), .val (.int p4), .val (.int p5), .val (.int kk), .val (.ref d), .val (.ref sc), .val (.ref ms), .val (.ref b1), .val (.int dp), .val (.int z14_0), .val (.ref b233), .val (.ref b1), .val (.ref b1)] [(.ref b1)])) (fun t k => XS.aload X243.here hx rfl (hb hby at_290) rfl rfl k) ?_
            refine own_via (S' := T243.setTop (mkF m 294 #[.val (.int p0), .val (.int p1), .val (.int p2), .val (.int p3), .val (.int p4), .val (.int p5), .val (.int kk), .val (.ref d), .val (.ref sc), .val (.ref ms), .val (.ref b1), .val (.int dp), .val (.int z14_0), .val (.ref b233), .val (.ref b1), .val (.ref b1)] [(.ref b1), (.ref b1)])) (fun t k => XS.aload X243.here hx rfl (hb hby at_292) rfl rfl k) ?_
            refine own_via (S' := T243.setTop (mkF m 297 #[.val (.int p0), .val (.int p1), .val (.int p2), .val (.int p3), .val (.int p4), .val (.int p5), .val (.int kk), .val (.ref d), .val (.ref sc), .val (.ref ms), .val (.ref b1), .val (.int dp), .val (.int z14_0), .val (.ref b233), .val (.ref b1), .val (.ref b1)] [])) (fun t k => Jvm.RoadKit.acmp (g := (mkF m 294 #[.val (.int p0), .val (.int p1), .val (.int p2), .val (.int p3), .val (.int p4), .val (.int p5), .val (.int kk), .val (.ref d), .val (.ref sc), .val (.ref ms), .val (.ref b1), .val (.int dp), .val (.int z14_0), .val (.ref b233), .val (.ref b1), .val (.ref b1)] [(.ref b1), (.ref b1)])) X243 hx rfl rfl rfl (pc0 := 294) (pc' := 297) (same := true) rfl (hb hby at_294) rfl (decide_eq_true rfl) (by decide) (by decide) k) ?_
            refine own_via (S' := T243.setTop (mkF m 299 #[.val (.int p0), .val (.int p1), .val (.int p2), .val (.int p3), .val (.int p4), .val (.int p5), .val (.int kk), .val (.ref d), .val (.ref sc), .val (.ref ms), .val (.ref b1), .val (.int dp), .val (.int z14_0), .val (.ref b233), .val (.ref b1), .val (.ref b1)] [(.ref b1)])) (fun t k => XS.aload X243.here hx rfl (hb hby at_297) rfl rfl k) ?_
            have cx248 : Exa Z T233.heap b1 "com/example/object_access_rules/objectaccessrules/Result" := ((((((cx117.keep K116q).keep K156q).keep K161q).keep K202q).keep K207q).keep K233q)
            obtain ⟨cq247, kq247, q247a, q247b, q247c⟩ := isOf hZ e243 cx248
            obtain ⟨_, _, ⟨T247, Lp247, kp247, np247⟩, -, X247, ⟨Lc247, hQ247, l247, y247, z247⟩, st247⟩ := X243.virtualBack hx (y := mt10) (z := mt10) hown (mvT hZ (wd84 hw)) (mvT hZ (wd85 hw)) (notFace_of_selects (args := #[]) (mvT hZ (wd87 hw))) (mvT hZ (wd87 hw)) (mvT hZ (wd86 hw)) (by decide) (backOf (W := 0) (own_og0 l Z a0 hw [] b1 T233.heap n0 O236 cx246) hZ (wd88 hw) (wd18 hw) (by decide) (by decide)) q247a q247c (g := (mkF m 299 #[.val (.int p0), .val (.int p1), .val (.int p2), .val (.int p3), .val (.int p4), .val (.int p5), .val (.int kk), .val (.ref d), .val (.ref sc), .val (.ref ms), .val (.ref b1), .val (.int dp), .val (.int z14_0), .val (.ref b233), .val (.ref b1), .val (.ref b1)] [(.ref b1)])) rfl (by rw [hml]; rfl) (Steps.refl _) (argsL := []) (rest := []) (lenOf pd___Lcom_example_object_access_rules_objectaccessrules_Result__5924 rfl) rfl (by show 2 * 0 + _ ≤ _; exact Nat.le_of_eq rfl) (hb hby at_299) (fun _ _ => ⟨rfl, e243, (by decide : 47 + 0 ≤ _), (by decide : 548 + 0 ≤ _)⟩)
            dsimp only [Pt.U, Pt.locs, Pt.cells, Pt.slots] at X247 l247 y247 z247 st247 hQ247
            subst Lp247 kp247 np247
            obtain ⟨rfl, rfl, e247⟩ := hQ247
            try rw [List.append_nil] at X247
            refine own_tr (S' := T247.setTop (mkF m 302 #[.val (.int p0), .val (.int p1), .val (.int p2), .val (.int p3), .val (.int p4), .val (.int p5), .val (.int kk), .val (.ref d), .val (.ref sc), .val (.ref ms), .val (.ref b1), .val (.int dp), .val (.int z14_0), .val (.ref b233), .val (.ref b1), .val (.ref b1)] [(.ref b1)])) st247 ?_
            refine own_via (S' := T247.setTop (mkF m 304 #[.val (.int p0), .val (.int p1), .val (.int p2), .val (.int p3), .val (.int p4), .val (.int p5), .val (.int kk), .val (.ref d), .val (.ref sc), .val (.ref ms), .val (.ref b1), .val (.int dp), .val (.int z14_0), .val (.ref b233), .val (.ref b1), .val (.ref b1)] [(.ref b1), (.ref b1)])) (fun t k => XS.aload X247.here hx rfl (hb hby at_302) rfl rfl k) ?_
            refine own_via (S' := T247.setTop (mkF m 307 #[.val (.int p0), .val (.int p1), .val (.int p2), .val (.int p3), .val (.int p4), .val (.int p5), .val (.int kk), .val (.ref d), .val (.ref sc), .val (.ref ms), .val (.ref b1), .val (.int dp), .val (.int z14_0), .val (.ref b233), .val (.ref b1), .val (.ref b1)] [])) (fun t k => Jvm.RoadKit.acmp (g := (mkF m 304 #[.val (.int p0), .val (.int p1), .val (.int p2), .val (.int p3), .val (.int p4), .val (.int p5), .val (.int kk), .val (.ref d), .val (.ref sc), .val (.ref ms), .val (.ref b1), .val (.int dp), .val (.int z14_0), .val (.ref b233), .val (.ref b1), .val (.ref b1)] [(.ref b1), (.ref b1)])) X247 hx rfl rfl rfl (pc0 := 304) (pc' := 307) (same := true) rfl (hb hby at_304) rfl (decide_eq_true rfl) (by decide) (by decide) k) ?_
            refine own_via (S' := T247.setTop (mkF m 308 #[.val (.int p0), .val (.int p1), .val (.int p2), .val (.int p3), .val (.int p4), .val (.int p5), .val (.int kk), .val (.ref d), .val (.ref sc), .val (.ref ms), .val (.ref b1), .val (.int dp), .val (.int z14_0), .val (.ref b233), .val (.ref b1), .val (.ref b1)] [(.int (1 : Int32))])) (fun t k => XS.iconst X247.here hx rfl (hb hby at_307) k) ?_
            refine own_via (S' := T247.setTop (mkF m 312 #[.val (.int p0), .val (.int p1), .val (.int p2), .val (.int p3), .val (.int p4), .val (.int p5), .val (.int kk), .val (.ref d), .val (.ref sc), .val (.ref ms), .val (.ref b1), .val (.int dp), .val (.int z14_0), .val (.ref b233), .val (.ref b1), .val (.ref b1)] [(.int (1 : Int32))])) (fun t k => XS.goto X247.here hx rfl (pc0 := 308) (pc' := 312) rfl (hb hby at_308) (by decide) (by decide) k) ?_
            have RTR235 : CHr Z own_EL s.vm h0 T247.vm T233.heap := R235.trans (CHv.at X247 hZ hEL R235.1)
            have RXR235 : CHr Z own_EL s.vm s.heap T247.vm T247.heap := by rw [hh, e247]; exact RTR235
            refine own_retW (Q := Q_own_law Z p0 p1 p2 p3 p4 p5 zc wP wD wN wI wO wM wG wY h0 n0) (C := room_1.cells) (N := room_1.slots) X247 hSn233 (by rw [e247]; omega) (v := some (.int (1 : Int32))) (fun h => by rw [hret] at h; cases h) hsync ?_ RXR235 (by decide) (by decide) (fun fs hr => retN X247 hx (t := .boolean) hret (by simp) (hb hby at_312) hr)
            show Q_own_law Z p0 p1 p2 p3 p4 p5 zc wP wD wN wI wO wM wG wY h0 n0 _ T247.vm T247.heap _
            rw [e247]
            exact ⟨rfl, N233⟩
set_option maxRecDepth 65536 in
set_option maxHeartbeats 40000000 in
theorem own_law (l : Launch) (Z : State) (a0 : Array Value) (hw : ∀ d ∈ tables_1, d.before a0 Z = true) (ws : List Jvm.Cond) (p0 : Int32) (p1 : Int32) (p2 : Int32) (p3 : Int32) (p4 : Int32) (p5 : Int32) (zc : Int32) (wP : Addr) (wD : Addr) (wN : Addr) (wI : Addr) (wO : Addr) (wM : Addr) (wG : Addr) (wY : Addr) (h0 : Heap) (n0 : Nat) (O0 : Old Z n0 h0) (zf_S_java_lang_String_COMPACT_STRINGS : Sta Z Z.heap "java/lang/String" "COMPACT_STRINGS" "Z" (.int zc)) (zf_S_com_example_object_access_rules_objectaccessrules_Decision_PERMIT : Sta Z Z.heap "com/example/object_access_rules/objectaccessrules/Decision" "PERMIT" "Lcom/example/object_access_rules/objectaccessrules/Decision;" (.ref wP)) (zf_S_com_example_object_access_rules_objectaccessrules_Decision_DENY : Sta Z Z.heap "com/example/object_access_rules/objectaccessrules/Decision" "DENY" "Lcom/example/object_access_rules/objectaccessrules/Decision;" (.ref wD)) (zf_S_com_example_object_access_rules_objectaccessrules_Decision_NOT_APPLICABLE : Sta Z Z.heap "com/example/object_access_rules/objectaccessrules/Decision" "NOT_APPLICABLE" "Lcom/example/object_access_rules/objectaccessrules/Decision;" (.ref wN)) (zf_S_com_example_object_access_rules_objectaccessrules_Decision_INDETERMINATE : Sta Z Z.heap "com/example/object_access_rules/objectaccessrules/Decision" "INDETERMINATE" "Lcom/example/object_access_rules/objectaccessrules/Decision;" (.ref wI)) (zf_E_wP : Exa Z Z.heap wP "com/example/object_access_rules/objectaccessrules/Decision") (zf_E_wD : Exa Z Z.heap wD "com/example/object_access_rules/objectaccessrules/Decision") (zf_E_wN : Exa Z Z.heap wN "com/example/object_access_rules/objectaccessrules/Decision") (zf_E_wI : Exa Z Z.heap wI "com/example/object_access_rules/objectaccessrules/Decision") (zf_S_com_example_object_access_rules_objectaccessrules_StatusCode_OK : Sta Z Z.heap "com/example/object_access_rules/objectaccessrules/StatusCode" "OK" "Lcom/example/object_access_rules/objectaccessrules/StatusCode;" (.ref wO)) (zf_S_com_example_object_access_rules_objectaccessrules_StatusCode_MISSING_ATTRIBUTE : Sta Z Z.heap "com/example/object_access_rules/objectaccessrules/StatusCode" "MISSING_ATTRIBUTE" "Lcom/example/object_access_rules/objectaccessrules/StatusCode;" (.ref wM)) (zf_S_com_example_object_access_rules_objectaccessrules_StatusCode_PROCESSING_ERROR : Sta Z Z.heap "com/example/object_access_rules/objectaccessrules/StatusCode" "PROCESSING_ERROR" "Lcom/example/object_access_rules/objectaccessrules/StatusCode;" (.ref wG)) (zf_S_com_example_object_access_rules_objectaccessrules_StatusCode_SYNTAX_ERROR : Sta Z Z.heap "com/example/object_access_rules/objectaccessrules/StatusCode" "SYNTAX_ERROR" "Lcom/example/object_access_rules/objectaccessrules/StatusCode;" (.ref wY)) (zf_E_wO : Exa Z Z.heap wO "com/example/object_access_rules/objectaccessrules/StatusCode") (zf_E_wM : Exa Z Z.heap wM "com/example/object_access_rules/objectaccessrules/StatusCode") (zf_E_wG : Exa Z Z.heap wG "com/example/object_access_rules/objectaccessrules/StatusCode") (zf_E_wY : Exa Z Z.heap wY "com/example/object_access_rules/objectaccessrules/StatusCode") (hzc : ¬ (zc = (0 : Int32))) (hD : own_d4 wP wD wN wI) (hS : own_d4 wO wM wG wY) :
    MetFree l x (head1 (Jvm.Cond.code x code maxLocals ret :: ws) room_1) (fun aq U => aq = #[(.int p0), (.int p1), (.int p2), (.int p3), (.int p4), (.int p5)] ∧ Z.Warmed39 U.vm ∧ U.heap = h0 ∧ CHv Z own_EL U.vm h0 ∧ ∀ x ∈ ([] : List Addr), Safe Z own_EL U.vm h0 x) (fun _ _ _ _ _ => True) (fun _ U o U' => ∃ v L, o = .returned v ∧ Q_own_law Z p0 p1 p2 p3 p4 p5 zc wP wD wN wI wO wM wG wY h0 n0 v U'.vm U'.heap L ∧ CHr Z own_EL U.vm U.heap U'.vm U'.heap ∧ ReturnedEndW U o U' L room_1.cells room_1.slots) := by
  refine MetFree.of_bodySF (plainFor_of_name pn_com_example_object_access_rules_objectaccessrules_ResultOriginPinLaw) hisR ?_
  intro p e s m args below meth c s₁ Bd hml0 hP hK
  obtain ⟨rfl, hZ, hh, hCH, hSL⟩ := hP
  have hx := Bd.exec
  have hby := Bd.bytes
  have hml : c.maxLocals = 16 := hml0
  have hown : s.vm.findClass "com/example/object_access_rules/objectaccessrules/ResultOriginPinLaw" = some m.cls := findClass_of_methodNamed Bd.named
  have hnm := (name_of_methodNamed Bd.named Bd.method).1
  have X0 : Stand p l e room_1 (s.setVm s.vm) m #[(.int p0), (.int p1), (.int p2), (.int p3), (.int p4), (.int p5)] below meth c s₁ [] 0 0 := Stand.of_body Bd
  have e0 : s₁.heap = h0 := by rw [← hh, Bd.state]; rfl
  have N0 := Fr.nil n0
  have zO := O0.1
  have zO2 := O0.2.1
  have zl_E_wP : Z.heap.size > wP := zf_E_wP.lt
  have zl_E_wD : Z.heap.size > wD := zf_E_wD.lt
  have zl_E_wN : Z.heap.size > wN := zf_E_wN.lt
  have zl_E_wI : Z.heap.size > wI := zf_E_wI.lt
  have zl_E_wO : Z.heap.size > wO := zf_E_wO.lt
  have zl_E_wM : Z.heap.size > wM := zf_E_wM.lt
  have zl_E_wG : Z.heap.size > wG := zf_E_wG.lt
  have zl_E_wY : Z.heap.size > wY := zf_E_wY.lt
  refine own_open (own_via (S' := s₁.setTop (mkF m 0 #[.val (.int p0), .val (.int p1), .val (.int p2), .val (.int p3), .val (.int p4), .val (.int p5), .unset, .unset, .unset, .unset, .unset, .unset, .unset, .unset, .unset, .unset] [])) (fun t k => castTop (ef_own_law m p0 p1 p2 p3 p4 p5) k) ?_)
  have hEL := own_EW hw
  have hS0 : s.Since s.vm h0.size := (State.WarmedH.refl s).since _
  have R0 : CHr Z own_EL s.vm h0 s.vm h0 := CHr.refl hCH
  refine own_via (S' := s₁.setTop (mkF m 1 #[.val (.int p0), .val (.int p1), .val (.int p2), .val (.int p3), .val (.int p4), .val (.int p5), .unset, .unset, .unset, .unset, .unset, .unset, .unset, .unset, .unset, .unset] [(.int p0)])) (fun t k => XS.iloadN X0.here hx rfl (hb hby at_0) rfl k) ?_
  refine own_via (S' := s₁.setTop (mkF m 2 #[.val (.int p0), .val (.int p1), .val (.int p2), .val (.int p3), .val (.int p4), .val (.int p5), .unset, .unset, .unset, .unset, .unset, .unset, .unset, .unset, .unset, .unset] [(.int (3 : Int32)), (.int p0)])) (fun t k => XS.iconst X0.here hx rfl (hb hby at_1) k) ?_
  refine own_via (S' := s₁.setTop (mkF m 3 #[.val (.int p0), .val (.int p1), .val (.int p2), .val (.int p3), .val (.int p4), .val (.int p5), .unset, .unset, .unset, .unset, .unset, .unset, .unset, .unset, .unset, .unset] [(.int (p0 &&& (3 : Int32)))])) (fun t k => XS.iand X0.here hx rfl (hb hby at_2) rfl k) ?_
  refine own_via (S' := s₁.setTop (mkF m 5 #[.val (.int p0), .val (.int p1), .val (.int p2), .val (.int p3), .val (.int p4), .val (.int p5), .val (.int (p0 &&& (3 : Int32))), .unset, .unset, .unset, .unset, .unset, .unset, .unset, .unset, .unset] [])) (fun t k => XS.istore X0.here hx rfl (hb hby at_3) rfl (l' := #[.val (.int p0), .val (.int p1), .val (.int p2), .val (.int p3), .val (.int p4), .val (.int p5), .val (.int (p0 &&& (3 : Int32))), .unset, .unset, .unset, .unset, .unset, .unset, .unset, .unset, .unset]) rfl k) ?_
  obtain ⟨kk, hn_kk⟩ : ∃ z : Int32, z = (p0 &&& (3 : Int32)) := ⟨_, rfl⟩
  rw [← hn_kk]
  refine own_via (S' := s₁.setTop (mkF m 7 #[.val (.int p0), .val (.int p1), .val (.int p2), .val (.int p3), .val (.int p4), .val (.int p5), .val (.int kk), .unset, .unset, .unset, .unset, .unset, .unset, .unset, .unset, .unset] [(.int kk)])) (fun t k => XS.iload X0.here hx rfl (hb hby at_5) rfl k) ?_
  by_cases hc7_1 : kk = (0 : Int32)
  · -- yes
    refine own_via (S' := s₁.setTop (mkF m 10 #[.val (.int p0), .val (.int p1), .val (.int p2), .val (.int p3), .val (.int p4), .val (.int p5), .val (.int kk), .unset, .unset, .unset, .unset, .unset, .unset, .unset, .unset, .unset] [])) (fun t k => XS.ifNo X0.here hx rfl (hb hby at_7) rfl ((if0 _ _).trans (teq hc7_1).2) k) ?_
    have cx2 : Sta Z h0 "com/example/object_access_rules/objectaccessrules/Decision" "PERMIT" "Lcom/example/object_access_rules/objectaccessrules/Decision;" (.ref wP) := zf_S_com_example_object_access_rules_objectaccessrules_Decision_PERMIT.ext O0.2
    obtain ⟨T3, X3, e3, st3⟩ := getS2 X0 hx hZ hown (host := "") (Or.inl (wd0 hw)) Via.refl e0 cx2 (g := (mkF m 10 #[.val (.int p0), .val (.int p1), .val (.int p2), .val (.int p3), .val (.int p4), .val (.int p5), .val (.int kk), .unset, .unset, .unset, .unset, .unset, .unset, .unset, .unset, .unset] [])) rfl (hb hby at_10)
    refine own_via (S' := T3.setTop (mkF m 13 #[.val (.int p0), .val (.int p1), .val (.int p2), .val (.int p3), .val (.int p4), .val (.int p5), .val (.int kk), .unset, .unset, .unset, .unset, .unset, .unset, .unset, .unset, .unset] [(.ref wP)])) st3 ?_
    refine own_via (S' := T3.setTop (mkF m 43 #[.val (.int p0), .val (.int p1), .val (.int p2), .val (.int p3), .val (.int p4), .val (.int p5), .val (.int kk), .unset, .unset, .unset, .unset, .unset, .unset, .unset, .unset, .unset] [(.ref wP)])) (fun t k => XS.goto X3.here hx rfl (pc0 := 13) (pc' := 43) rfl (hb hby at_13) (by decide) (by decide) k) ?_
    refine own_via (S' := T3.setTop (mkF m 45 #[.val (.int p0), .val (.int p1), .val (.int p2), .val (.int p3), .val (.int p4), .val (.int p5), .val (.int kk), .val (.ref wP), .unset, .unset, .unset, .unset, .unset, .unset, .unset, .unset] [])) (fun t k => XS.astore X3.here hx rfl (hb hby at_43) rfl rfl (l' := #[.val (.int p0), .val (.int p1), .val (.int p2), .val (.int p3), .val (.int p4), .val (.int p5), .val (.int kk), .val (.ref wP), .unset, .unset, .unset, .unset, .unset, .unset, .unset, .unset]) rfl k) ?_
    refine own_via (S' := T3.setTop (mkF m 47 #[.val (.int p0), .val (.int p1), .val (.int p2), .val (.int p3), .val (.int p4), .val (.int p5), .val (.int kk), .val (.ref wP), .unset, .unset, .unset, .unset, .unset, .unset, .unset, .unset] [(.ref wP)])) (fun t k => XS.aload X3.here hx rfl (hb hby at_45) rfl rfl k) ?_
    have cx4 : Sta Z h0 "com/example/object_access_rules/objectaccessrules/Decision" "INDETERMINATE" "Lcom/example/object_access_rules/objectaccessrules/Decision;" (.ref wI) := zf_S_com_example_object_access_rules_objectaccessrules_Decision_INDETERMINATE.ext O0.2
    obtain ⟨T5, X5, e5, st5⟩ := getS2 X3 hx hZ hown (host := "") (Or.inl (wd3 hw)) Via.refl e3 cx4 (g := (mkF m 47 #[.val (.int p0), .val (.int p1), .val (.int p2), .val (.int p3), .val (.int p4), .val (.int p5), .val (.int kk), .val (.ref wP), .unset, .unset, .unset, .unset, .unset, .unset, .unset, .unset] [(.ref wP)])) rfl (hb hby at_47)
    refine own_via (S' := T5.setTop (mkF m 50 #[.val (.int p0), .val (.int p1), .val (.int p2), .val (.int p3), .val (.int p4), .val (.int p5), .val (.int kk), .val (.ref wP), .unset, .unset, .unset, .unset, .unset, .unset, .unset, .unset] [(.ref wI), (.ref wP)])) st5 ?_
    have hc50_6 : ¬ (wP = wI) := hD.2.2.1
    refine own_via (S' := T5.setTop (mkF m 134 #[.val (.int p0), .val (.int p1), .val (.int p2), .val (.int p3), .val (.int p4), .val (.int p5), .val (.int kk), .val (.ref wP), .unset, .unset, .unset, .unset, .unset, .unset, .unset, .unset] [])) (fun t k => Jvm.RoadKit.acmp (g := (mkF m 50 #[.val (.int p0), .val (.int p1), .val (.int p2), .val (.int p3), .val (.int p4), .val (.int p5), .val (.int kk), .val (.ref wP), .unset, .unset, .unset, .unset, .unset, .unset, .unset, .unset] [(.ref wI), (.ref wP)])) X5 hx rfl rfl rfl (pc0 := 50) (pc' := 134) (same := false) rfl (hb hby at_50) rfl (decide_eq_false fun q => hc50_6 (Value.ref.inj q)) (by decide) (by decide) k) ?_
    have cx7 : Sta Z h0 "com/example/object_access_rules/objectaccessrules/StatusCode" "OK" "Lcom/example/object_access_rules/objectaccessrules/StatusCode;" (.ref wO) := zf_S_com_example_object_access_rules_objectaccessrules_StatusCode_OK.ext O0.2
    obtain ⟨T8, X8, e8, st8⟩ := getS2 X5 hx hZ hown (host := "") (Or.inl (wd5 hw)) Via.refl e5 cx7 (g := (mkF m 134 #[.val (.int p0), .val (.int p1), .val (.int p2), .val (.int p3), .val (.int p4), .val (.int p5), .val (.int kk), .val (.ref wP), .unset, .unset, .unset, .unset, .unset, .unset, .unset, .unset] [])) rfl (hb hby at_134)
    refine own_via (S' := T8.setTop (mkF m 137 #[.val (.int p0), .val (.int p1), .val (.int p2), .val (.int p3), .val (.int p4), .val (.int p5), .val (.int kk), .val (.ref wP), .unset, .unset, .unset, .unset, .unset, .unset, .unset, .unset] [(.ref wO)])) st8 ?_
    refine own_via (S' := T8.setTop (mkF m 139 #[.val (.int p0), .val (.int p1), .val (.int p2), .val (.int p3), .val (.int p4), .val (.int p5), .val (.int kk), .val (.ref wP), .val (.ref wO), .unset, .unset, .unset, .unset, .unset, .unset, .unset] [])) (fun t k => XS.astore X8.here hx rfl (hb hby at_137) rfl rfl (l' := #[.val (.int p0), .val (.int p1), .val (.int p2), .val (.int p3), .val (.int p4), .val (.int p5), .val (.int kk), .val (.ref wP), .val (.ref wO), .unset, .unset, .unset, .unset, .unset, .unset, .unset]) rfl k) ?_
    obtain ⟨b9, T9, h9, kk9, t9, kb9, X9, e9, E9, hS9, hk9, hZ, hown, f9_0, f9_1, f9_2, f9_3, lta9, ltb9, R9q, hLit9, hsn9, st9⟩ := ldcCH X8 hx hZ hown (wd8 hw) (own_wS hw) e8 hS0 (by omega) hEL (List.mem_of_getElem? (i := 4) rfl) R0.1 (vs := []) (z := (0 : Int32)) ⟨by decide, rfl⟩ (by decide) rfl (g := (mkF m 139 #[.val (.int p0), .val (.int p1), .val (.int p2), .val (.int p3), .val (.int p4), .val (.int p5), .val (.int kk), .val (.ref wP), .val (.ref wO), .unset, .unset, .unset, .unset, .unset, .unset, .unset] [])) rfl (hb hby at_139) (n := 0) (by decide) (by decide) (by decide) (by decide)
    have sz10 : h0.size ≤ h9.size := E9.1
    have O11 : Old Z n0 h9 := O0.ext E9
    have R12 : CHr Z own_EL s.vm h0 T9.vm h9 := R0.trans R9q
    have lt_b9 : h9.size > b9 := lta9
    have lt_t9 : h9.size > t9 := ltb9
    have cx13 : Exa Z h9 wP "com/example/object_access_rules/objectaccessrules/Decision" := zf_E_wP.ext O11.2
    have ne_wP_b9 : wP ≠ b9 := (hsn9 _ (Safe.exa hZ.alike cx13 (by decide) (by decide))).1
    have ne_wP_t9 : wP ≠ t9 := (hsn9 _ (Safe.exa hZ.alike cx13 (by decide) (by decide))).2
    have cx14 : Exa Z h9 wD "com/example/object_access_rules/objectaccessrules/Decision" := zf_E_wD.ext O11.2
    have ne_wD_b9 : wD ≠ b9 := (hsn9 _ (Safe.exa hZ.alike cx14 (by decide) (by decide))).1
    have ne_wD_t9 : wD ≠ t9 := (hsn9 _ (Safe.exa hZ.alike cx14 (by decide) (by decide))).2
    have cx15 : Exa Z h9 wN "com/example/object_access_rules/objectaccessrules/Decision" := zf_E_wN.ext O11.2
    have ne_wN_b9 : wN ≠ b9 := (hsn9 _ (Safe.exa hZ.alike cx15 (by decide) (by decide))).1
    have ne_wN_t9 : wN ≠ t9 := (hsn9 _ (Safe.exa hZ.alike cx15 (by decide) (by decide))).2
    have cx16 : Exa Z h9 wI "com/example/object_access_rules/objectaccessrules/Decision" := zf_E_wI.ext O11.2
    have ne_wI_b9 : wI ≠ b9 := (hsn9 _ (Safe.exa hZ.alike cx16 (by decide) (by decide))).1
    have ne_wI_t9 : wI ≠ t9 := (hsn9 _ (Safe.exa hZ.alike cx16 (by decide) (by decide))).2
    have cx17 : Exa Z h9 wO "com/example/object_access_rules/objectaccessrules/StatusCode" := zf_E_wO.ext O11.2
    have ne_wO_b9 : wO ≠ b9 := (hsn9 _ (Safe.exa hZ.alike cx17 (by decide) (by decide))).1
    have ne_wO_t9 : wO ≠ t9 := (hsn9 _ (Safe.exa hZ.alike cx17 (by decide) (by decide))).2
    have cx18 : Exa Z h9 wM "com/example/object_access_rules/objectaccessrules/StatusCode" := zf_E_wM.ext O11.2
    have ne_wM_b9 : wM ≠ b9 := (hsn9 _ (Safe.exa hZ.alike cx18 (by decide) (by decide))).1
    have ne_wM_t9 : wM ≠ t9 := (hsn9 _ (Safe.exa hZ.alike cx18 (by decide) (by decide))).2
    have cx19 : Exa Z h9 wG "com/example/object_access_rules/objectaccessrules/StatusCode" := zf_E_wG.ext O11.2
    have ne_wG_b9 : wG ≠ b9 := (hsn9 _ (Safe.exa hZ.alike cx19 (by decide) (by decide))).1
    have ne_wG_t9 : wG ≠ t9 := (hsn9 _ (Safe.exa hZ.alike cx19 (by decide) (by decide))).2
    have cx20 : Exa Z h9 wY "com/example/object_access_rules/objectaccessrules/StatusCode" := zf_E_wY.ext O11.2
    have ne_wY_b9 : wY ≠ b9 := (hsn9 _ (Safe.exa hZ.alike cx20 (by decide) (by decide))).1
    have ne_wY_t9 : wY ≠ t9 := (hsn9 _ (Safe.exa hZ.alike cx20 (by decide) (by decide))).2
    refine own_via (S' := T9.setTop (mkF m 141 #[.val (.int p0), .val (.int p1), .val (.int p2), .val (.int p3), .val (.int p4), .val (.int p5), .val (.int kk), .val (.ref wP), .val (.ref wO), .unset, .unset, .unset, .unset, .unset, .unset, .unset] [(.ref b9)])) st9 ?_
    refine own_via (S' := T9.setTop (mkF m 143 #[.val (.int p0), .val (.int p1), .val (.int p2), .val (.int p3), .val (.int p4), .val (.int p5), .val (.int kk), .val (.ref wP), .val (.ref wO), .val (.ref b9), .unset, .unset, .unset, .unset, .unset, .unset] [])) (fun t k => XS.astore X9.here hx rfl (hb hby at_141) rfl rfl (l' := #[.val (.int p0), .val (.int p1), .val (.int p2), .val (.int p3), .val (.int p4), .val (.int p5), .val (.int kk), .val (.ref wP), .val (.ref wO), .val (.ref b9), .unset, .unset, .unset, .unset, .unset, .unset]) rfl k) ?_
    exact own_tail l Z a0 hw p0 p1 p2 p3 p4 p5 kk wP wO b9 t9 kb9 (0 : Int32) [] (.unset) (.unset) zc wP wD wN wI wO wM wG wY h0 n0 h9 (X9.mono (by decide) (by decide)) hx hZ hby hml hown Bd.returns Bd.notSynchronized hh hS9 (by omega) R12 O11 N0 e9 zf_S_java_lang_String_COMPACT_STRINGS zf_S_com_example_object_access_rules_objectaccessrules_Decision_PERMIT zf_S_com_example_object_access_rules_objectaccessrules_Decision_DENY zf_S_com_example_object_access_rules_objectaccessrules_Decision_NOT_APPLICABLE zf_S_com_example_object_access_rules_objectaccessrules_Decision_INDETERMINATE zf_S_com_example_object_access_rules_objectaccessrules_StatusCode_OK zf_S_com_example_object_access_rules_objectaccessrules_StatusCode_MISSING_ATTRIBUTE zf_S_com_example_object_access_rules_objectaccessrules_StatusCode_PROCESSING_ERROR zf_S_com_example_object_access_rules_objectaccessrules_StatusCode_SYNTAX_ERROR zf_E_wD zf_E_wO cx13 cx17 f9_0 f9_2 f9_3 One.u One.u (Or.inr ⟨hD.2.2.1, rfl, rfl⟩) hzc hD hS
  · -- no
    refine own_via (S' := s₁.setTop (mkF m 16 #[.val (.int p0), .val (.int p1), .val (.int p2), .val (.int p3), .val (.int p4), .val (.int p5), .val (.int kk), .unset, .unset, .unset, .unset, .unset, .unset, .unset, .unset, .unset] [])) (fun t k => XS.ifYes X0.here hx rfl (pc0 := 7) (pc' := 16) rfl (hb hby at_7) rfl ((if0 _ _).trans (feq hc7_1).2) (by decide) (by decide) k) ?_
    refine own_via (S' := s₁.setTop (mkF m 18 #[.val (.int p0), .val (.int p1), .val (.int p2), .val (.int p3), .val (.int p4), .val (.int p5), .val (.int kk), .unset, .unset, .unset, .unset, .unset, .unset, .unset, .unset, .unset] [(.int kk)])) (fun t k => XS.iload X0.here hx rfl (hb hby at_16) rfl k) ?_
    refine own_via (S' := s₁.setTop (mkF m 19 #[.val (.int p0), .val (.int p1), .val (.int p2), .val (.int p3), .val (.int p4), .val (.int p5), .val (.int kk), .unset, .unset, .unset, .unset, .unset, .unset, .unset, .unset, .unset] [(.int (1 : Int32)), (.int kk)])) (fun t k => XS.iconst X0.here hx rfl (hb hby at_18) k) ?_
    by_cases hc19_21 : kk = (1 : Int32)
    · -- yes
      refine own_via (S' := s₁.setTop (mkF m 22 #[.val (.int p0), .val (.int p1), .val (.int p2), .val (.int p3), .val (.int p4), .val (.int p5), .val (.int kk), .unset, .unset, .unset, .unset, .unset, .unset, .unset, .unset, .unset] [])) (fun t k => XS.icmpNo X0.here hx rfl (hb hby at_19) rfl (teq hc19_21).2 k) ?_
      have cx22 : Sta Z h0 "com/example/object_access_rules/objectaccessrules/Decision" "DENY" "Lcom/example/object_access_rules/objectaccessrules/Decision;" (.ref wD) := zf_S_com_example_object_access_rules_objectaccessrules_Decision_DENY.ext O0.2
      obtain ⟨T23, X23, e23, st23⟩ := getS2 X0 hx hZ hown (host := "") (Or.inl (wd98 hw)) Via.refl e0 cx22 (g := (mkF m 22 #[.val (.int p0), .val (.int p1), .val (.int p2), .val (.int p3), .val (.int p4), .val (.int p5), .val (.int kk), .unset, .unset, .unset, .unset, .unset, .unset, .unset, .unset, .unset] [])) rfl (hb hby at_22)
      refine own_via (S' := T23.setTop (mkF m 25 #[.val (.int p0), .val (.int p1), .val (.int p2), .val (.int p3), .val (.int p4), .val (.int p5), .val (.int kk), .unset, .unset, .unset, .unset, .unset, .unset, .unset, .unset, .unset] [(.ref wD)])) st23 ?_
      refine own_via (S' := T23.setTop (mkF m 43 #[.val (.int p0), .val (.int p1), .val (.int p2), .val (.int p3), .val (.int p4), .val (.int p5), .val (.int kk), .unset, .unset, .unset, .unset, .unset, .unset, .unset, .unset, .unset] [(.ref wD)])) (fun t k => XS.goto X23.here hx rfl (pc0 := 25) (pc' := 43) rfl (hb hby at_25) (by decide) (by decide) k) ?_
      refine own_via (S' := T23.setTop (mkF m 45 #[.val (.int p0), .val (.int p1), .val (.int p2), .val (.int p3), .val (.int p4), .val (.int p5), .val (.int kk), .val (.ref wD), .unset, .unset, .unset, .unset, .unset, .unset, .unset, .unset] [])) (fun t k => XS.astore X23.here hx rfl (hb hby at_43) rfl rfl (l' := #[.val (.int p0), .val (.int p1), .val (.int p2), .val (.int p3), .val (.int p4), .val (.int p5), .val (.int kk), .val (.ref wD), .unset, .unset, .unset, .unset, .unset, .unset, .unset, .unset]) rfl k) ?_
      refine own_via (S' := T23.setTop (mkF m 47 #[.val (.int p0), .val (.int p1), .val (.int p2), .val (.int p3), .val (.int p4), .val (.int p5), .val (.int kk), .val (.ref wD), .unset, .unset, .unset, .unset, .unset, .unset, .unset, .unset] [(.ref wD)])) (fun t k => XS.aload X23.here hx rfl (hb hby at_45) rfl rfl k) ?_
      have cx24 : Sta Z h0 "com/example/object_access_rules/objectaccessrules/Decision" "INDETERMINATE" "Lcom/example/object_access_rules/objectaccessrules/Decision;" (.ref wI) := zf_S_com_example_object_access_rules_objectaccessrules_Decision_INDETERMINATE.ext O0.2
      obtain ⟨T25, X25, e25, st25⟩ := getS2 X23 hx hZ hown (host := "") (Or.inl (wd3 hw)) Via.refl e23 cx24 (g := (mkF m 47 #[.val (.int p0), .val (.int p1), .val (.int p2), .val (.int p3), .val (.int p4), .val (.int p5), .val (.int kk), .val (.ref wD), .unset, .unset, .unset, .unset, .unset, .unset, .unset, .unset] [(.ref wD)])) rfl (hb hby at_47)
      refine own_via (S' := T25.setTop (mkF m 50 #[.val (.int p0), .val (.int p1), .val (.int p2), .val (.int p3), .val (.int p4), .val (.int p5), .val (.int kk), .val (.ref wD), .unset, .unset, .unset, .unset, .unset, .unset, .unset, .unset] [(.ref wI), (.ref wD)])) st25 ?_
      have hc50_26 : ¬ (wD = wI) := hD.2.2.2.2.1
      refine own_via (S' := T25.setTop (mkF m 134 #[.val (.int p0), .val (.int p1), .val (.int p2), .val (.int p3), .val (.int p4), .val (.int p5), .val (.int kk), .val (.ref wD), .unset, .unset, .unset, .unset, .unset, .unset, .unset, .unset] [])) (fun t k => Jvm.RoadKit.acmp (g := (mkF m 50 #[.val (.int p0), .val (.int p1), .val (.int p2), .val (.int p3), .val (.int p4), .val (.int p5), .val (.int kk), .val (.ref wD), .unset, .unset, .unset, .unset, .unset, .unset, .unset, .unset] [(.ref wI), (.ref wD)])) X25 hx rfl rfl rfl (pc0 := 50) (pc' := 134) (same := false) rfl (hb hby at_50) rfl (decide_eq_false fun q => hc50_26 (Value.ref.inj q)) (by decide) (by decide) k) ?_
      have cx27 : Sta Z h0 "com/example/object_access_rules/objectaccessrules/StatusCode" "OK" "Lcom/example/object_access_rules/objectaccessrules/StatusCode;" (.ref wO) := zf_S_com_example_object_access_rules_objectaccessrules_StatusCode_OK.ext O0.2
      obtain ⟨T28, X28, e28, st28⟩ := getS2 X25 hx hZ hown (host := "") (Or.inl (wd5 hw)) Via.refl e25 cx27 (g := (mkF m 134 #[.val (.int p0), .val (.int p1), .val (.int p2), .val (.int p3), .val (.int p4), .val (.int p5), .val (.int kk), .val (.ref wD), .unset, .unset, .unset, .unset, .unset, .unset, .unset, .unset] [])) rfl (hb hby at_134)
      refine own_via (S' := T28.setTop (mkF m 137 #[.val (.int p0), .val (.int p1), .val (.int p2), .val (.int p3), .val (.int p4), .val (.int p5), .val (.int kk), .val (.ref wD), .unset, .unset, .unset, .unset, .unset, .unset, .unset, .unset] [(.ref wO)])) st28 ?_
      refine own_via (S' := T28.setTop (mkF m 139 #[.val (.int p0), .val (.int p1), .val (.int p2), .val (.int p3), .val (.int p4), .val (.int p5), .val (.int kk), .val (.ref wD), .val (.ref wO), .unset, .unset, .unset, .unset, .unset, .unset, .unset] [])) (fun t k => XS.astore X28.here hx rfl (hb hby at_137) rfl rfl (l' := #[.val (.int p0), .val (.int p1), .val (.int p2), .val (.int p3), .val (.int p4), .val (.int p5), .val (.int kk), .val (.ref wD), .val (.ref wO), .unset, .unset, .unset, .unset, .unset, .unset, .unset]) rfl k) ?_
      obtain ⟨b29, T29, h29, kk29, t29, kb29, X29, e29, E29, hS29, hk29, hZ, hown, f29_0, f29_1, f29_2, f29_3, lta29, ltb29, R29q, hLit29, hsn29, st29⟩ := ldcCH X28 hx hZ hown (wd8 hw) (own_wS hw) e28 hS0 (by omega) hEL (List.mem_of_getElem? (i := 4) rfl) R0.1 (vs := []) (z := (0 : Int32)) ⟨by decide, rfl⟩ (by decide) rfl (g := (mkF m 139 #[.val (.int p0), .val (.int p1), .val (.int p2), .val (.int p3), .val (.int p4), .val (.int p5), .val (.int kk), .val (.ref wD), .val (.ref wO), .unset, .unset, .unset, .unset, .unset, .unset, .unset] [])) rfl (hb hby at_139) (n := 0) (by decide) (by decide) (by decide) (by decide)
      have sz30 : h0.size ≤ h29.size := E29.1
      have O31 : Old Z n0 h29 := O0.ext E29
      have R32 : CHr Z own_EL s.vm h0 T29.vm h29 := R0.trans R29q
      have lt_b29 : h29.size > b29 := lta29
      have lt_t29 : h29.size > t29 := ltb29
      have cx33 : Exa Z h29 wP "com/example/object_access_rules/objectaccessrules/Decision" := zf_E_wP.ext O31.2
      have ne_wP_b29 : wP ≠ b29 := (hsn29 _ (Safe.exa hZ.alike cx33 (by decide) (by decide))).1
      have ne_wP_t29 : wP ≠ t29 := (hsn29 _ (Safe.exa hZ.alike cx33 (by decide) (by decide))).2
      have cx34 : Exa Z h29 wD "com/example/object_access_rules/objectaccessrules/Decision" := zf_E_wD.ext O31.2
      have ne_wD_b29 : wD ≠ b29 := (hsn29 _ (Safe.exa hZ.alike cx34 (by decide) (by decide))).1
      have ne_wD_t29 : wD ≠ t29 := (hsn29 _ (Safe.exa hZ.alike cx34 (by decide) (by decide))).2
      have cx35 : Exa Z h29 wN "com/example/object_access_rules/objectaccessrules/Decision" := zf_E_wN.ext O31.2
      have ne_wN_b29 : wN ≠ b29 := (hsn29 _ (Safe.exa hZ.alike cx35 (by decide) (by decide))).1
      have ne_wN_t29 : wN ≠ t29 := (hsn29 _ (Safe.exa hZ.alike cx35 (by decide) (by decide))).2
      have cx36 : Exa Z h29 wI "com/example/object_access_rules/objectaccessrules/Decision" := zf_E_wI.ext O31.2
      have ne_wI_b29 : wI ≠ b29 := (hsn29 _ (Safe.exa hZ.alike cx36 (by decide) (by decide))).1
      have ne_wI_t29 : wI ≠ t29 := (hsn29 _ (Safe.exa hZ.alike cx36 (by decide) (by decide))).2
      have cx37 : Exa Z h29 wO "com/example/object_access_rules/objectaccessrules/StatusCode" := zf_E_wO.ext O31.2
      have ne_wO_b29 : wO ≠ b29 := (hsn29 _ (Safe.exa hZ.alike cx37 (by decide) (by decide))).1
      have ne_wO_t29 : wO ≠ t29 := (hsn29 _ (Safe.exa hZ.alike cx37 (by decide) (by decide))).2
      have cx38 : Exa Z h29 wM "com/example/object_access_rules/objectaccessrules/StatusCode" := zf_E_wM.ext O31.2
      have ne_wM_b29 : wM ≠ b29 := (hsn29 _ (Safe.exa hZ.alike cx38 (by decide) (by decide))).1
      have ne_wM_t29 : wM ≠ t29 := (hsn29 _ (Safe.exa hZ.alike cx38 (by decide) (by decide))).2
      have cx39 : Exa Z h29 wG "com/example/object_access_rules/objectaccessrules/StatusCode" := zf_E_wG.ext O31.2
      have ne_wG_b29 : wG ≠ b29 := (hsn29 _ (Safe.exa hZ.alike cx39 (by decide) (by decide))).1
      have ne_wG_t29 : wG ≠ t29 := (hsn29 _ (Safe.exa hZ.alike cx39 (by decide) (by decide))).2
      have cx40 : Exa Z h29 wY "com/example/object_access_rules/objectaccessrules/StatusCode" := zf_E_wY.ext O31.2
      have ne_wY_b29 : wY ≠ b29 := (hsn29 _ (Safe.exa hZ.alike cx40 (by decide) (by decide))).1
      have ne_wY_t29 : wY ≠ t29 := (hsn29 _ (Safe.exa hZ.alike cx40 (by decide) (by decide))).2
      refine own_via (S' := T29.setTop (mkF m 141 #[.val (.int p0), .val (.int p1), .val (.int p2), .val (.int p3), .val (.int p4), .val (.int p5), .val (.int kk), .val (.ref wD), .val (.ref wO), .unset, .unset, .unset, .unset, .unset, .unset, .unset] [(.ref b29)])) st29 ?_
      refine own_via (S' := T29.setTop (mkF m 143 #[.val (.int p0), .val (.int p1), .val (.int p2), .val (.int p3), .val (.int p4), .val (.int p5), .val (.int kk), .val (.ref wD), .val (.ref wO), .val (.ref b29), .unset, .unset, .unset, .unset, .unset, .unset] [])) (fun t k => XS.astore X29.here hx rfl (hb hby at_141) rfl rfl (l' := #[.val (.int p0), .val (.int p1), .val (.int p2), .val (.int p3), .val (.int p4), .val (.int p5), .val (.int kk), .val (.ref wD), .val (.ref wO), .val (.ref b29), .unset, .unset, .unset, .unset, .unset, .unset]) rfl k) ?_
      exact own_tail l Z a0 hw p0 p1 p2 p3 p4 p5 kk wD wO b29 t29 kb29 (0 : Int32) [] (.unset) (.unset) zc wP wD wN wI wO wM wG wY h0 n0 h29 (X29.mono (by decide) (by decide)) hx hZ hby hml hown Bd.returns Bd.notSynchronized hh hS29 (by omega) R32 O31 N0 e29 zf_S_java_lang_String_COMPACT_STRINGS zf_S_com_example_object_access_rules_objectaccessrules_Decision_PERMIT zf_S_com_example_object_access_rules_objectaccessrules_Decision_DENY zf_S_com_example_object_access_rules_objectaccessrules_Decision_NOT_APPLICABLE zf_S_com_example_object_access_rules_objectaccessrules_Decision_INDETERMINATE zf_S_com_example_object_access_rules_objectaccessrules_StatusCode_OK zf_S_com_example_object_access_rules_objectaccessrules_StatusCode_MISSING_ATTRIBUTE zf_S_com_example_object_access_rules_objectaccessrules_StatusCode_PROCESSING_ERROR zf_S_com_example_object_access_rules_objectaccessrules_StatusCode_SYNTAX_ERROR zf_E_wD zf_E_wO cx34 cx37 f29_0 f29_2 f29_3 One.u One.u (Or.inr ⟨hD.2.2.2.2.1, rfl, rfl⟩) hzc hD hS
    · -- no
      refine own_via (S' := s₁.setTop (mkF m 28 #[.val (.int p0), .val (.int p1), .val (.int p2), .val (.int p3), .val (.int p4), .val (.int p5), .val (.int kk), .unset, .unset, .unset, .unset, .unset, .unset, .unset, .unset, .unset] [])) (fun t k => XS.icmpYes X0.here hx rfl (pc0 := 19) (pc' := 28) rfl (hb hby at_19) rfl (feq hc19_21).2 (by decide) (by decide) k) ?_
      refine own_via (S' := s₁.setTop (mkF m 30 #[.val (.int p0), .val (.int p1), .val (.int p2), .val (.int p3), .val (.int p4), .val (.int p5), .val (.int kk), .unset, .unset, .unset, .unset, .unset, .unset, .unset, .unset, .unset] [(.int kk)])) (fun t k => XS.iload X0.here hx rfl (hb hby at_28) rfl k) ?_
      refine own_via (S' := s₁.setTop (mkF m 31 #[.val (.int p0), .val (.int p1), .val (.int p2), .val (.int p3), .val (.int p4), .val (.int p5), .val (.int kk), .unset, .unset, .unset, .unset, .unset, .unset, .unset, .unset, .unset] [(.int (2 : Int32)), (.int kk)])) (fun t k => XS.iconst X0.here hx rfl (hb hby at_30) k) ?_
      by_cases hc31_41 : kk = (2 : Int32)
      · -- yes
        refine own_via (S' := s₁.setTop (mkF m 34 #[.val (.int p0), .val (.int p1), .val (.int p2), .val (.int p3), .val (.int p4), .val (.int p5), .val (.int kk), .unset, .unset, .unset, .unset, .unset, .unset, .unset, .unset, .unset] [])) (fun t k => XS.icmpNo X0.here hx rfl (hb hby at_31) rfl (teq hc31_41).2 k) ?_
        have cx42 : Sta Z h0 "com/example/object_access_rules/objectaccessrules/Decision" "NOT_APPLICABLE" "Lcom/example/object_access_rules/objectaccessrules/Decision;" (.ref wN) := zf_S_com_example_object_access_rules_objectaccessrules_Decision_NOT_APPLICABLE.ext O0.2
        obtain ⟨T43, X43, e43, st43⟩ := getS2 X0 hx hZ hown (host := "") (Or.inl (wd97 hw)) Via.refl e0 cx42 (g := (mkF m 34 #[.val (.int p0), .val (.int p1), .val (.int p2), .val (.int p3), .val (.int p4), .val (.int p5), .val (.int kk), .unset, .unset, .unset, .unset, .unset, .unset, .unset, .unset, .unset] [])) rfl (hb hby at_34)
        refine own_via (S' := T43.setTop (mkF m 37 #[.val (.int p0), .val (.int p1), .val (.int p2), .val (.int p3), .val (.int p4), .val (.int p5), .val (.int kk), .unset, .unset, .unset, .unset, .unset, .unset, .unset, .unset, .unset] [(.ref wN)])) st43 ?_
        refine own_via (S' := T43.setTop (mkF m 43 #[.val (.int p0), .val (.int p1), .val (.int p2), .val (.int p3), .val (.int p4), .val (.int p5), .val (.int kk), .unset, .unset, .unset, .unset, .unset, .unset, .unset, .unset, .unset] [(.ref wN)])) (fun t k => XS.goto X43.here hx rfl (pc0 := 37) (pc' := 43) rfl (hb hby at_37) (by decide) (by decide) k) ?_
        refine own_via (S' := T43.setTop (mkF m 45 #[.val (.int p0), .val (.int p1), .val (.int p2), .val (.int p3), .val (.int p4), .val (.int p5), .val (.int kk), .val (.ref wN), .unset, .unset, .unset, .unset, .unset, .unset, .unset, .unset] [])) (fun t k => XS.astore X43.here hx rfl (hb hby at_43) rfl rfl (l' := #[.val (.int p0), .val (.int p1), .val (.int p2), .val (.int p3), .val (.int p4), .val (.int p5), .val (.int kk), .val (.ref wN), .unset, .unset, .unset, .unset, .unset, .unset, .unset, .unset]) rfl k) ?_
        refine own_via (S' := T43.setTop (mkF m 47 #[.val (.int p0), .val (.int p1), .val (.int p2), .val (.int p3), .val (.int p4), .val (.int p5), .val (.int kk), .val (.ref wN), .unset, .unset, .unset, .unset, .unset, .unset, .unset, .unset] [(.ref wN)])) (fun t k => XS.aload X43.here hx rfl (hb hby at_45) rfl rfl k) ?_
        have cx44 : Sta Z h0 "com/example/object_access_rules/objectaccessrules/Decision" "INDETERMINATE" "Lcom/example/object_access_rules/objectaccessrules/Decision;" (.ref wI) := zf_S_com_example_object_access_rules_objectaccessrules_Decision_INDETERMINATE.ext O0.2
        obtain ⟨T45, X45, e45, st45⟩ := getS2 X43 hx hZ hown (host := "") (Or.inl (wd3 hw)) Via.refl e43 cx44 (g := (mkF m 47 #[.val (.int p0), .val (.int p1), .val (.int p2), .val (.int p3), .val (.int p4), .val (.int p5), .val (.int kk), .val (.ref wN), .unset, .unset, .unset, .unset, .unset, .unset, .unset, .unset] [(.ref wN)])) rfl (hb hby at_47)
        refine own_via (S' := T45.setTop (mkF m 50 #[.val (.int p0), .val (.int p1), .val (.int p2), .val (.int p3), .val (.int p4), .val (.int p5), .val (.int kk), .val (.ref wN), .unset, .unset, .unset, .unset, .unset, .unset, .unset, .unset] [(.ref wI), (.ref wN)])) st45 ?_
        have hc50_46 : ¬ (wN = wI) := hD.2.2.2.2.2
        refine own_via (S' := T45.setTop (mkF m 134 #[.val (.int p0), .val (.int p1), .val (.int p2), .val (.int p3), .val (.int p4), .val (.int p5), .val (.int kk), .val (.ref wN), .unset, .unset, .unset, .unset, .unset, .unset, .unset, .unset] [])) (fun t k => Jvm.RoadKit.acmp (g := (mkF m 50 #[.val (.int p0), .val (.int p1), .val (.int p2), .val (.int p3), .val (.int p4), .val (.int p5), .val (.int kk), .val (.ref wN), .unset, .unset, .unset, .unset, .unset, .unset, .unset, .unset] [(.ref wI), (.ref wN)])) X45 hx rfl rfl rfl (pc0 := 50) (pc' := 134) (same := false) rfl (hb hby at_50) rfl (decide_eq_false fun q => hc50_46 (Value.ref.inj q)) (by decide) (by decide) k) ?_
        have cx47 : Sta Z h0 "com/example/object_access_rules/objectaccessrules/StatusCode" "OK" "Lcom/example/object_access_rules/objectaccessrules/StatusCode;" (.ref wO) := zf_S_com_example_object_access_rules_objectaccessrules_StatusCode_OK.ext O0.2
        obtain ⟨T48, X48, e48, st48⟩ := getS2 X45 hx hZ hown (host := "") (Or.inl (wd5 hw)) Via.refl e45 cx47 (g := (mkF m 134 #[.val (.int p0), .val (.int p1), .val (.int p2), .val (.int p3), .val (.int p4), .val (.int p5), .val (.int kk), .val (.ref wN), .unset, .unset, .unset, .unset, .unset, .unset, .unset, .unset] [])) rfl (hb hby at_134)
        refine own_via (S' := T48.setTop (mkF m 137 #[.val (.int p0), .val (.int p1), .val (.int p2), .val (.int p3), .val (.int p4), .val (.int p5), .val (.int kk), .val (.ref wN), .unset, .unset, .unset, .unset, .unset, .unset, .unset, .unset] [(.ref wO)])) st48 ?_
        refine own_via (S' := T48.setTop (mkF m 139 #[.val (.int p0), .val (.int p1), .val (.int p2), .val (.int p3), .val (.int p4), .val (.int p5), .val (.int kk), .val (.ref wN), .val (.ref wO), .unset, .unset, .unset, .unset, .unset, .unset, .unset] [])) (fun t k => XS.astore X48.here hx rfl (hb hby at_137) rfl rfl (l' := #[.val (.int p0), .val (.int p1), .val (.int p2), .val (.int p3), .val (.int p4), .val (.int p5), .val (.int kk), .val (.ref wN), .val (.ref wO), .unset, .unset, .unset, .unset, .unset, .unset, .unset]) rfl k) ?_
        obtain ⟨b49, T49, h49, kk49, t49, kb49, X49, e49, E49, hS49, hk49, hZ, hown, f49_0, f49_1, f49_2, f49_3, lta49, ltb49, R49q, hLit49, hsn49, st49⟩ := ldcCH X48 hx hZ hown (wd8 hw) (own_wS hw) e48 hS0 (by omega) hEL (List.mem_of_getElem? (i := 4) rfl) R0.1 (vs := []) (z := (0 : Int32)) ⟨by decide, rfl⟩ (by decide) rfl (g := (mkF m 139 #[.val (.int p0), .val (.int p1), .val (.int p2), .val (.int p3), .val (.int p4), .val (.int p5), .val (.int kk), .val (.ref wN), .val (.ref wO), .unset, .unset, .unset, .unset, .unset, .unset, .unset] [])) rfl (hb hby at_139) (n := 0) (by decide) (by decide) (by decide) (by decide)
        have sz50 : h0.size ≤ h49.size := E49.1
        have O51 : Old Z n0 h49 := O0.ext E49
        have R52 : CHr Z own_EL s.vm h0 T49.vm h49 := R0.trans R49q
        have lt_b49 : h49.size > b49 := lta49
        have lt_t49 : h49.size > t49 := ltb49
        have cx53 : Exa Z h49 wP "com/example/object_access_rules/objectaccessrules/Decision" := zf_E_wP.ext O51.2
        have ne_wP_b49 : wP ≠ b49 := (hsn49 _ (Safe.exa hZ.alike cx53 (by decide) (by decide))).1
        have ne_wP_t49 : wP ≠ t49 := (hsn49 _ (Safe.exa hZ.alike cx53 (by decide) (by decide))).2
        have cx54 : Exa Z h49 wD "com/example/object_access_rules/objectaccessrules/Decision" := zf_E_wD.ext O51.2
        have ne_wD_b49 : wD ≠ b49 := (hsn49 _ (Safe.exa hZ.alike cx54 (by decide) (by decide))).1
        have ne_wD_t49 : wD ≠ t49 := (hsn49 _ (Safe.exa hZ.alike cx54 (by decide) (by decide))).2
        have cx55 : Exa Z h49 wN "com/example/object_access_rules/objectaccessrules/Decision" := zf_E_wN.ext O51.2
        have ne_wN_b49 : wN ≠ b49 := (hsn49 _ (Safe.exa hZ.alike cx55 (by decide) (by decide))).1
        have ne_wN_t49 : wN ≠ t49 := (hsn49 _ (Safe.exa hZ.alike cx55 (by decide) (by decide))).2
        have cx56 : Exa Z h49 wI "com/example/object_access_rules/objectaccessrules/Decision" := zf_E_wI.ext O51.2
        have ne_wI_b49 : wI ≠ b49 := (hsn49 _ (Safe.exa hZ.alike cx56 (by decide) (by decide))).1
        have ne_wI_t49 : wI ≠ t49 := (hsn49 _ (Safe.exa hZ.alike cx56 (by decide) (by decide))).2
        have cx57 : Exa Z h49 wO "com/example/object_access_rules/objectaccessrules/StatusCode" := zf_E_wO.ext O51.2
        have ne_wO_b49 : wO ≠ b49 := (hsn49 _ (Safe.exa hZ.alike cx57 (by decide) (by decide))).1
        have ne_wO_t49 : wO ≠ t49 := (hsn49 _ (Safe.exa hZ.alike cx57 (by decide) (by decide))).2
        have cx58 : Exa Z h49 wM "com/example/object_access_rules/objectaccessrules/StatusCode" := zf_E_wM.ext O51.2
        have ne_wM_b49 : wM ≠ b49 := (hsn49 _ (Safe.exa hZ.alike cx58 (by decide) (by decide))).1
        have ne_wM_t49 : wM ≠ t49 := (hsn49 _ (Safe.exa hZ.alike cx58 (by decide) (by decide))).2
        have cx59 : Exa Z h49 wG "com/example/object_access_rules/objectaccessrules/StatusCode" := zf_E_wG.ext O51.2
        have ne_wG_b49 : wG ≠ b49 := (hsn49 _ (Safe.exa hZ.alike cx59 (by decide) (by decide))).1
        have ne_wG_t49 : wG ≠ t49 := (hsn49 _ (Safe.exa hZ.alike cx59 (by decide) (by decide))).2
        have cx60 : Exa Z h49 wY "com/example/object_access_rules/objectaccessrules/StatusCode" := zf_E_wY.ext O51.2
        have ne_wY_b49 : wY ≠ b49 := (hsn49 _ (Safe.exa hZ.alike cx60 (by decide) (by decide))).1
        have ne_wY_t49 : wY ≠ t49 := (hsn49 _ (Safe.exa hZ.alike cx60 (by decide) (by decide))).2
        refine own_via (S' := T49.setTop (mkF m 141 #[.val (.int p0), .val (.int p1), .val (.int p2), .val (.int p3), .val (.int p4), .val (.int p5), .val (.int kk), .val (.ref wN), .val (.ref wO), .unset, .unset, .unset, .unset, .unset, .unset, .unset] [(.ref b49)])) st49 ?_
        refine own_via (S' := T49.setTop (mkF m 143 #[.val (.int p0), .val (.int p1), .val (.int p2), .val (.int p3), .val (.int p4), .val (.int p5), .val (.int kk), .val (.ref wN), .val (.ref wO), .val (.ref b49), .unset, .unset, .unset, .unset, .unset, .unset] [])) (fun t k => XS.astore X49.here hx rfl (hb hby at_141) rfl rfl (l' := #[.val (.int p0), .val (.int p1), .val (.int p2), .val (.int p3), .val (.int p4), .val (.int p5), .val (.int kk), .val (.ref wN), .val (.ref wO), .val (.ref b49), .unset, .unset, .unset, .unset, .unset, .unset]) rfl k) ?_
        exact own_tail l Z a0 hw p0 p1 p2 p3 p4 p5 kk wN wO b49 t49 kb49 (0 : Int32) [] (.unset) (.unset) zc wP wD wN wI wO wM wG wY h0 n0 h49 (X49.mono (by decide) (by decide)) hx hZ hby hml hown Bd.returns Bd.notSynchronized hh hS49 (by omega) R52 O51 N0 e49 zf_S_java_lang_String_COMPACT_STRINGS zf_S_com_example_object_access_rules_objectaccessrules_Decision_PERMIT zf_S_com_example_object_access_rules_objectaccessrules_Decision_DENY zf_S_com_example_object_access_rules_objectaccessrules_Decision_NOT_APPLICABLE zf_S_com_example_object_access_rules_objectaccessrules_Decision_INDETERMINATE zf_S_com_example_object_access_rules_objectaccessrules_StatusCode_OK zf_S_com_example_object_access_rules_objectaccessrules_StatusCode_MISSING_ATTRIBUTE zf_S_com_example_object_access_rules_objectaccessrules_StatusCode_PROCESSING_ERROR zf_S_com_example_object_access_rules_objectaccessrules_StatusCode_SYNTAX_ERROR zf_E_wD zf_E_wO cx55 cx57 f49_0 f49_2 f49_3 One.u One.u (Or.inr ⟨hD.2.2.2.2.2, rfl, rfl⟩) hzc hD hS
      · -- no
        refine own_via (S' := s₁.setTop (mkF m 40 #[.val (.int p0), .val (.int p1), .val (.int p2), .val (.int p3), .val (.int p4), .val (.int p5), .val (.int kk), .unset, .unset, .unset, .unset, .unset, .unset, .unset, .unset, .unset] [])) (fun t k => XS.icmpYes X0.here hx rfl (pc0 := 31) (pc' := 40) rfl (hb hby at_31) rfl (feq hc31_41).2 (by decide) (by decide) k) ?_
        have cx61 : Sta Z h0 "com/example/object_access_rules/objectaccessrules/Decision" "INDETERMINATE" "Lcom/example/object_access_rules/objectaccessrules/Decision;" (.ref wI) := zf_S_com_example_object_access_rules_objectaccessrules_Decision_INDETERMINATE.ext O0.2
        obtain ⟨T62, X62, e62, st62⟩ := getS2 X0 hx hZ hown (host := "") (Or.inl (wd3 hw)) Via.refl e0 cx61 (g := (mkF m 40 #[.val (.int p0), .val (.int p1), .val (.int p2), .val (.int p3), .val (.int p4), .val (.int p5), .val (.int kk), .unset, .unset, .unset, .unset, .unset, .unset, .unset, .unset, .unset] [])) rfl (hb hby at_40)
        refine own_via (S' := T62.setTop (mkF m 43 #[.val (.int p0), .val (.int p1), .val (.int p2), .val (.int p3), .val (.int p4), .val (.int p5), .val (.int kk), .unset, .unset, .unset, .unset, .unset, .unset, .unset, .unset, .unset] [(.ref wI)])) st62 ?_
        refine own_via (S' := T62.setTop (mkF m 45 #[.val (.int p0), .val (.int p1), .val (.int p2), .val (.int p3), .val (.int p4), .val (.int p5), .val (.int kk), .val (.ref wI), .unset, .unset, .unset, .unset, .unset, .unset, .unset, .unset] [])) (fun t k => XS.astore X62.here hx rfl (hb hby at_43) rfl rfl (l' := #[.val (.int p0), .val (.int p1), .val (.int p2), .val (.int p3), .val (.int p4), .val (.int p5), .val (.int kk), .val (.ref wI), .unset, .unset, .unset, .unset, .unset, .unset, .unset, .unset]) rfl k) ?_
        refine own_via (S' := T62.setTop (mkF m 47 #[.val (.int p0), .val (.int p1), .val (.int p2), .val (.int p3), .val (.int p4), .val (.int p5), .val (.int kk), .val (.ref wI), .unset, .unset, .unset, .unset, .unset, .unset, .unset, .unset] [(.ref wI)])) (fun t k => XS.aload X62.here hx rfl (hb hby at_45) rfl rfl k) ?_
        obtain ⟨T63, X63, e63, st63⟩ := getS2 X62 hx hZ hown (host := "") (Or.inl (wd3 hw)) Via.refl e62 cx61 (g := (mkF m 47 #[.val (.int p0), .val (.int p1), .val (.int p2), .val (.int p3), .val (.int p4), .val (.int p5), .val (.int kk), .val (.ref wI), .unset, .unset, .unset, .unset, .unset, .unset, .unset, .unset] [(.ref wI)])) rfl (hb hby at_47)
        refine own_via (S' := T63.setTop (mkF m 50 #[.val (.int p0), .val (.int p1), .val (.int p2), .val (.int p3), .val (.int p4), .val (.int p5), .val (.int kk), .val (.ref wI), .unset, .unset, .unset, .unset, .unset, .unset, .unset, .unset] [(.ref wI), (.ref wI)])) st63 ?_
        refine own_via (S' := T63.setTop (mkF m 53 #[.val (.int p0), .val (.int p1), .val (.int p2), .val (.int p3), .val (.int p4), .val (.int p5), .val (.int kk), .val (.ref wI), .unset, .unset, .unset, .unset, .unset, .unset, .unset, .unset] [])) (fun t k => Jvm.RoadKit.acmp (g := (mkF m 50 #[.val (.int p0), .val (.int p1), .val (.int p2), .val (.int p3), .val (.int p4), .val (.int p5), .val (.int kk), .val (.ref wI), .unset, .unset, .unset, .unset, .unset, .unset, .unset, .unset] [(.ref wI), (.ref wI)])) X63 hx rfl rfl rfl (pc0 := 50) (pc' := 53) (same := true) rfl (hb hby at_50) rfl (decide_eq_true rfl) (by decide) (by decide) k) ?_
        refine own_via (S' := T63.setTop (mkF m 54 #[.val (.int p0), .val (.int p1), .val (.int p2), .val (.int p3), .val (.int p4), .val (.int p5), .val (.int kk), .val (.ref wI), .unset, .unset, .unset, .unset, .unset, .unset, .unset, .unset] [(.int p1)])) (fun t k => XS.iloadN X63.here hx rfl (hb hby at_53) rfl k) ?_
        refine own_via (S' := T63.setTop (mkF m 56 #[.val (.int p0), .val (.int p1), .val (.int p2), .val (.int p3), .val (.int p4), .val (.int p5), .val (.int kk), .val (.ref wI), .unset, .unset, .unset, .unset, .unset, .unset, .unset, .unset] [(.int (2147483647 : Int32)), (.int p1)])) (fun t k => X63.ldcInt hx hown (mvT hZ (wd99 hw)) (g := (mkF m 54 #[.val (.int p0), .val (.int p1), .val (.int p2), .val (.int p3), .val (.int p4), .val (.int p5), .val (.int kk), .val (.ref wI), .unset, .unset, .unset, .unset, .unset, .unset, .unset, .unset] [(.int p1)])) rfl (hb hby at_54) _ k) ?_
        refine own_via (S' := T63.setTop (mkF m 57 #[.val (.int p0), .val (.int p1), .val (.int p2), .val (.int p3), .val (.int p4), .val (.int p5), .val (.int kk), .val (.ref wI), .unset, .unset, .unset, .unset, .unset, .unset, .unset, .unset] [(.int (p1 &&& (2147483647 : Int32)))])) (fun t k => XS.iand X63.here hx rfl (hb hby at_56) rfl k) ?_
        refine own_via (S' := T63.setTop (mkF m 58 #[.val (.int p0), .val (.int p1), .val (.int p2), .val (.int p3), .val (.int p4), .val (.int p5), .val (.int kk), .val (.ref wI), .unset, .unset, .unset, .unset, .unset, .unset, .unset, .unset] [(.int (3 : Int32)), (.int (p1 &&& (2147483647 : Int32)))])) (fun t k => XS.iconst X63.here hx rfl (hb hby at_57) k) ?_
        refine own_via (S' := T63.setTop (mkF m 59 #[.val (.int p0), .val (.int p1), .val (.int p2), .val (.int p3), .val (.int p4), .val (.int p5), .val (.int kk), .val (.ref wI), .unset, .unset, .unset, .unset, .unset, .unset, .unset, .unset] [(.int ((p1 &&& (2147483647 : Int32)) % (3 : Int32)))])) (fun t k => iremM X63 hx (g := (mkF m 58 #[.val (.int p0), .val (.int p1), .val (.int p2), .val (.int p3), .val (.int p4), .val (.int p5), .val (.int kk), .val (.ref wI), .unset, .unset, .unset, .unset, .unset, .unset, .unset, .unset] [(.int (3 : Int32)), (.int (p1 &&& (2147483647 : Int32)))])) rfl (hb hby at_58) rfl (by decide) k) ?_
        refine own_via (S' := T63.setTop (mkF m 61 #[.val (.int p0), .val (.int p1), .val (.int p2), .val (.int p3), .val (.int p4), .val (.int p5), .val (.int kk), .val (.ref wI), .unset, .unset, .val (.int ((p1 &&& (2147483647 : Int32)) % (3 : Int32))), .unset, .unset, .unset, .unset, .unset] [])) (fun t k => XS.istore X63.here hx rfl (hb hby at_59) rfl (l' := #[.val (.int p0), .val (.int p1), .val (.int p2), .val (.int p3), .val (.int p4), .val (.int p5), .val (.int kk), .val (.ref wI), .unset, .unset, .val (.int ((p1 &&& (2147483647 : Int32)) % (3 : Int32))), .unset, .unset, .unset, .unset, .unset]) rfl k) ?_
        obtain ⟨ee, hn_ee⟩ : ∃ z : Int32, z = ((p1 &&& (2147483647 : Int32)) % (3 : Int32)) := ⟨_, rfl⟩
        rw [← hn_ee]
        refine own_via (S' := T63.setTop (mkF m 63 #[.val (.int p0), .val (.int p1), .val (.int p2), .val (.int p3), .val (.int p4), .val (.int p5), .val (.int kk), .val (.ref wI), .unset, .unset, .val (.int ee), .unset, .unset, .unset, .unset, .unset] [(.int ee)])) (fun t k => XS.iload X63.here hx rfl (hb hby at_61) rfl k) ?_
        obtain ⟨z64_0, hz64_0⟩ : ∃ z : Addr, z = (if ee = (0 : Int32) then wM else (if ee = (1 : Int32) then wG else wY)) := ⟨_, rfl⟩
        suffices jn64 : ∀ (Tm64 : State), Stand p l e room_1 (s.setVm s.vm) m #[(.int p0), (.int p1), (.int p2), (.int p3), (.int p4), (.int p5)] below meth c Tm64 [] 0 0 → Tm64.heap = h0 → own_Done p e below (fun o U' => ∃ v L, o = .returned v ∧ Q_own_law Z p0 p1 p2 p3 p4 p5 zc wP wD wN wI wO wM wG wY h0 n0 v U'.vm U'.heap L ∧ CHr Z own_EL s.vm s.heap U'.vm U'.heap ∧ ReturnedEndW s o U' L room_1.cells room_1.slots) (Tm64.setTop (mkF m 87 #[.val (.int p0), .val (.int p1), .val (.int p2), .val (.int p3), .val (.int p4), .val (.int p5), .val (.int kk), .val (.ref wI), .unset, .unset, .val (.int ee), .unset, .unset, .unset, .unset, .unset] [(.ref z64_0)])) by
          by_cases hc63_65 : ee = (0 : Int32)
          · -- yes
            refine own_via (S' := T63.setTop (mkF m 66 #[.val (.int p0), .val (.int p1), .val (.int p2), .val (.int p3), .val (.int p4), .val (.int p5), .val (.int kk), .val (.ref wI), .unset, .unset, .val (.int ee), .unset, .unset, .unset, .unset, .unset] [])) (fun t k => XS.ifNo X63.here hx rfl (hb hby at_63) rfl ((if0 _ _).trans (teq hc63_65).2) k) ?_
            have cx66 : Sta Z h0 "com/example/object_access_rules/objectaccessrules/StatusCode" "MISSING_ATTRIBUTE" "Lcom/example/object_access_rules/objectaccessrules/StatusCode;" (.ref wM) := zf_S_com_example_object_access_rules_objectaccessrules_StatusCode_MISSING_ATTRIBUTE.ext O0.2
            obtain ⟨T67, X67, e67, st67⟩ := getS2 X63 hx hZ hown (host := "") (Or.inl (wd102 hw)) Via.refl e63 cx66 (g := (mkF m 66 #[.val (.int p0), .val (.int p1), .val (.int p2), .val (.int p3), .val (.int p4), .val (.int p5), .val (.int kk), .val (.ref wI), .unset, .unset, .val (.int ee), .unset, .unset, .unset, .unset, .unset] [])) rfl (hb hby at_66)
            refine own_via (S' := T67.setTop (mkF m 69 #[.val (.int p0), .val (.int p1), .val (.int p2), .val (.int p3), .val (.int p4), .val (.int p5), .val (.int kk), .val (.ref wI), .unset, .unset, .val (.int ee), .unset, .unset, .unset, .unset, .unset] [(.ref wM)])) st67 ?_
            refine own_via (S' := T67.setTop (mkF m 87 #[.val (.int p0), .val (.int p1), .val (.int p2), .val (.int p3), .val (.int p4), .val (.int p5), .val (.int kk), .val (.ref wI), .unset, .unset, .val (.int ee), .unset, .unset, .unset, .unset, .unset] [(.ref wM)])) (fun t k => XS.goto X67.here hx rfl (pc0 := 69) (pc' := 87) rfl (hb hby at_69) (by decide) (by decide) k) ?_
            have qz64_0 : z64_0 = wM := hz64_0.trans (if_pos hc63_65)
            rw [qz64_0] at jn64
            exact jn64 _ X67 e67
          · -- no
            refine own_via (S' := T63.setTop (mkF m 72 #[.val (.int p0), .val (.int p1), .val (.int p2), .val (.int p3), .val (.int p4), .val (.int p5), .val (.int kk), .val (.ref wI), .unset, .unset, .val (.int ee), .unset, .unset, .unset, .unset, .unset] [])) (fun t k => XS.ifYes X63.here hx rfl (pc0 := 63) (pc' := 72) rfl (hb hby at_63) rfl ((if0 _ _).trans (feq hc63_65).2) (by decide) (by decide) k) ?_
            refine own_via (S' := T63.setTop (mkF m 74 #[.val (.int p0), .val (.int p1), .val (.int p2), .val (.int p3), .val (.int p4), .val (.int p5), .val (.int kk), .val (.ref wI), .unset, .unset, .val (.int ee), .unset, .unset, .unset, .unset, .unset] [(.int ee)])) (fun t k => XS.iload X63.here hx rfl (hb hby at_72) rfl k) ?_
            refine own_via (S' := T63.setTop (mkF m 75 #[.val (.int p0), .val (.int p1), .val (.int p2), .val (.int p3), .val (.int p4), .val (.int p5), .val (.int kk), .val (.ref wI), .unset, .unset, .val (.int ee), .unset, .unset, .unset, .unset, .unset] [(.int (1 : Int32)), (.int ee)])) (fun t k => XS.iconst X63.here hx rfl (hb hby at_74) k) ?_
            by_cases hc75_68 : ee = (1 : Int32)
            · -- yes
              refine own_via (S' := T63.setTop (mkF m 78 #[.val (.int p0), .val (.int p1), .val (.int p2), .val (.int p3), .val (.int p4), .val (.int p5), .val (.int kk), .val (.ref wI), .unset, .unset, .val (.int ee), .unset, .unset, .unset, .unset, .unset] [])) (fun t k => XS.icmpNo X63.here hx rfl (hb hby at_75) rfl (teq hc75_68).2 k) ?_
              have cx69 : Sta Z h0 "com/example/object_access_rules/objectaccessrules/StatusCode" "PROCESSING_ERROR" "Lcom/example/object_access_rules/objectaccessrules/StatusCode;" (.ref wG) := zf_S_com_example_object_access_rules_objectaccessrules_StatusCode_PROCESSING_ERROR.ext O0.2
              obtain ⟨T70, X70, e70, st70⟩ := getS2 X63 hx hZ hown (host := "") (Or.inl (wd122 hw)) Via.refl e63 cx69 (g := (mkF m 78 #[.val (.int p0), .val (.int p1), .val (.int p2), .val (.int p3), .val (.int p4), .val (.int p5), .val (.int kk), .val (.ref wI), .unset, .unset, .val (.int ee), .unset, .unset, .unset, .unset, .unset] [])) rfl (hb hby at_78)
              refine own_via (S' := T70.setTop (mkF m 81 #[.val (.int p0), .val (.int p1), .val (.int p2), .val (.int p3), .val (.int p4), .val (.int p5), .val (.int kk), .val (.ref wI), .unset, .unset, .val (.int ee), .unset, .unset, .unset, .unset, .unset] [(.ref wG)])) st70 ?_
              refine own_via (S' := T70.setTop (mkF m 87 #[.val (.int p0), .val (.int p1), .val (.int p2), .val (.int p3), .val (.int p4), .val (.int p5), .val (.int kk), .val (.ref wI), .unset, .unset, .val (.int ee), .unset, .unset, .unset, .unset, .unset] [(.ref wG)])) (fun t k => XS.goto X70.here hx rfl (pc0 := 81) (pc' := 87) rfl (hb hby at_81) (by decide) (by decide) k) ?_
              have qz64_0 : z64_0 = wG := hz64_0.trans ((if_neg hc63_65).trans (if_pos hc75_68))
              rw [qz64_0] at jn64
              exact jn64 _ X70 e70
            · -- no
              refine own_via (S' := T63.setTop (mkF m 84 #[.val (.int p0), .val (.int p1), .val (.int p2), .val (.int p3), .val (.int p4), .val (.int p5), .val (.int kk), .val (.ref wI), .unset, .unset, .val (.int ee), .unset, .unset, .unset, .unset, .unset] [])) (fun t k => XS.icmpYes X63.here hx rfl (pc0 := 75) (pc' := 84) rfl (hb hby at_75) rfl (feq hc75_68).2 (by decide) (by decide) k) ?_
              have cx71 : Sta Z h0 "com/example/object_access_rules/objectaccessrules/StatusCode" "SYNTAX_ERROR" "Lcom/example/object_access_rules/objectaccessrules/StatusCode;" (.ref wY) := zf_S_com_example_object_access_rules_objectaccessrules_StatusCode_SYNTAX_ERROR.ext O0.2
              obtain ⟨T72, X72, e72, st72⟩ := getS2 X63 hx hZ hown (host := "") (Or.inl (wd100 hw)) Via.refl e63 cx71 (g := (mkF m 84 #[.val (.int p0), .val (.int p1), .val (.int p2), .val (.int p3), .val (.int p4), .val (.int p5), .val (.int kk), .val (.ref wI), .unset, .unset, .val (.int ee), .unset, .unset, .unset, .unset, .unset] [])) rfl (hb hby at_84)
              refine own_via (S' := T72.setTop (mkF m 87 #[.val (.int p0), .val (.int p1), .val (.int p2), .val (.int p3), .val (.int p4), .val (.int p5), .val (.int kk), .val (.ref wI), .unset, .unset, .val (.int ee), .unset, .unset, .unset, .unset, .unset] [(.ref wY)])) st72 ?_
              have qz64_0 : z64_0 = wY := hz64_0.trans ((if_neg hc63_65).trans (if_neg hc75_68))
              rw [qz64_0] at jn64
              exact jn64 _ X72 e72
        intro Tm64 Xm64 em64
        have cx73 : Exa Z h0 wM "com/example/object_access_rules/objectaccessrules/StatusCode" := zf_E_wM.ext O0.2
        have cx74 : Exa Z h0 wG "com/example/object_access_rules/objectaccessrules/StatusCode" := zf_E_wG.ext O0.2
        have cx75 : Exa Z h0 wY "com/example/object_access_rules/objectaccessrules/StatusCode" := zf_E_wY.ext O0.2
        have E_z64_0 : Exa Z h0 z64_0 "com/example/object_access_rules/objectaccessrules/StatusCode" := by rw [hz64_0]; split; exact cx73; exact (by split; exact cx74; exact cx75)
        refine own_via (S' := Tm64.setTop (mkF m 89 #[.val (.int p0), .val (.int p1), .val (.int p2), .val (.int p3), .val (.int p4), .val (.int p5), .val (.int kk), .val (.ref wI), .val (.ref z64_0), .unset, .val (.int ee), .unset, .unset, .unset, .unset, .unset] [])) (fun t k => XS.astore Xm64.here hx rfl (hb hby at_87) rfl rfl (l' := #[.val (.int p0), .val (.int p1), .val (.int p2), .val (.int p3), .val (.int p4), .val (.int p5), .val (.int kk), .val (.ref wI), .val (.ref z64_0), .unset, .val (.int ee), .unset, .unset, .unset, .unset, .unset]) rfl k) ?_
        refine own_via (S' := Tm64.setTop (mkF m 90 #[.val (.int p0), .val (.int p1), .val (.int p2), .val (.int p3), .val (.int p4), .val (.int p5), .val (.int kk), .val (.ref wI), .val (.ref z64_0), .unset, .val (.int ee), .unset, .unset, .unset, .unset, .unset] [(.int p2)])) (fun t k => XS.iloadN Xm64.here hx rfl (hb hby at_89) rfl k) ?_
        refine own_via (S' := Tm64.setTop (mkF m 91 #[.val (.int p0), .val (.int p1), .val (.int p2), .val (.int p3), .val (.int p4), .val (.int p5), .val (.int kk), .val (.ref wI), .val (.ref z64_0), .unset, .val (.int ee), .unset, .unset, .unset, .unset, .unset] [(.int (3 : Int32)), (.int p2)])) (fun t k => XS.iconst Xm64.here hx rfl (hb hby at_90) k) ?_
        refine own_via (S' := Tm64.setTop (mkF m 92 #[.val (.int p0), .val (.int p1), .val (.int p2), .val (.int p3), .val (.int p4), .val (.int p5), .val (.int kk), .val (.ref wI), .val (.ref z64_0), .unset, .val (.int ee), .unset, .unset, .unset, .unset, .unset] [(.int (p2 >>> ((3 : Int32) &&& 31)))])) (fun t k => XS.ishr Xm64.here hx rfl (hb hby at_91) rfl k) ?_
        refine own_via (S' := Tm64.setTop (mkF m 93 #[.val (.int p0), .val (.int p1), .val (.int p2), .val (.int p3), .val (.int p4), .val (.int p5), .val (.int kk), .val (.ref wI), .val (.ref z64_0), .unset, .val (.int ee), .unset, .unset, .unset, .unset, .unset] [(.int (1 : Int32)), (.int (p2 >>> ((3 : Int32) &&& 31)))])) (fun t k => XS.iconst Xm64.here hx rfl (hb hby at_92) k) ?_
        refine own_via (S' := Tm64.setTop (mkF m 94 #[.val (.int p0), .val (.int p1), .val (.int p2), .val (.int p3), .val (.int p4), .val (.int p5), .val (.int kk), .val (.ref wI), .val (.ref z64_0), .unset, .val (.int ee), .unset, .unset, .unset, .unset, .unset] [(.int ((p2 >>> ((3 : Int32) &&& 31)) &&& (1 : Int32)))])) (fun t k => XS.iand Xm64.here hx rfl (hb hby at_93) rfl k) ?_
        by_cases hc94_76 : ((p2 >>> ((3 : Int32) &&& 31)) &&& (1 : Int32)) = (0 : Int32)
        · -- yes
          refine own_via (S' := Tm64.setTop (mkF m 127 #[.val (.int p0), .val (.int p1), .val (.int p2), .val (.int p3), .val (.int p4), .val (.int p5), .val (.int kk), .val (.ref wI), .val (.ref z64_0), .unset, .val (.int ee), .unset, .unset, .unset, .unset, .unset] [])) (fun t k => XS.ifYes Xm64.here hx rfl (pc0 := 94) (pc' := 127) rfl (hb hby at_94) rfl ((if0 _ _).trans (teq hc94_76).1) (by decide) (by decide) k) ?_
          obtain ⟨b77, T77, h77, kk77, t77, kb77, X77, e77, E77, hS77, hk77, hZ, hown, f77_0, f77_1, f77_2, f77_3, lta77, ltb77, R77q, hLit77, hsn77, st77⟩ := ldcCH Xm64 hx hZ hown (wd8 hw) (own_wS hw) em64 hS0 (by omega) hEL (List.mem_of_getElem? (i := 4) rfl) R0.1 (vs := []) (z := (0 : Int32)) ⟨by decide, rfl⟩ (by decide) rfl (g := (mkF m 127 #[.val (.int p0), .val (.int p1), .val (.int p2), .val (.int p3), .val (.int p4), .val (.int p5), .val (.int kk), .val (.ref wI), .val (.ref z64_0), .unset, .val (.int ee), .unset, .unset, .unset, .unset, .unset] [])) rfl (hb hby at_127) (n := 0) (by decide) (by decide) (by decide) (by decide)
          have sz78 : h0.size ≤ h77.size := E77.1
          have O79 : Old Z n0 h77 := O0.ext E77
          have R80 : CHr Z own_EL s.vm h0 T77.vm h77 := R0.trans R77q
          have lt_b77 : h77.size > b77 := lta77
          have lt_t77 : h77.size > t77 := ltb77
          have cx81 : Exa Z h77 wP "com/example/object_access_rules/objectaccessrules/Decision" := zf_E_wP.ext O79.2
          have ne_wP_b77 : wP ≠ b77 := (hsn77 _ (Safe.exa hZ.alike cx81 (by decide) (by decide))).1
          have ne_wP_t77 : wP ≠ t77 := (hsn77 _ (Safe.exa hZ.alike cx81 (by decide) (by decide))).2
          have cx82 : Exa Z h77 wD "com/example/object_access_rules/objectaccessrules/Decision" := zf_E_wD.ext O79.2
          have ne_wD_b77 : wD ≠ b77 := (hsn77 _ (Safe.exa hZ.alike cx82 (by decide) (by decide))).1
          have ne_wD_t77 : wD ≠ t77 := (hsn77 _ (Safe.exa hZ.alike cx82 (by decide) (by decide))).2
          have cx83 : Exa Z h77 wN "com/example/object_access_rules/objectaccessrules/Decision" := zf_E_wN.ext O79.2
          have ne_wN_b77 : wN ≠ b77 := (hsn77 _ (Safe.exa hZ.alike cx83 (by decide) (by decide))).1
          have ne_wN_t77 : wN ≠ t77 := (hsn77 _ (Safe.exa hZ.alike cx83 (by decide) (by decide))).2
          have cx84 : Exa Z h77 wI "com/example/object_access_rules/objectaccessrules/Decision" := zf_E_wI.ext O79.2
          have ne_wI_b77 : wI ≠ b77 := (hsn77 _ (Safe.exa hZ.alike cx84 (by decide) (by decide))).1
          have ne_wI_t77 : wI ≠ t77 := (hsn77 _ (Safe.exa hZ.alike cx84 (by decide) (by decide))).2
          have cx85 : Exa Z h77 wO "com/example/object_access_rules/objectaccessrules/StatusCode" := zf_E_wO.ext O79.2
          have ne_wO_b77 : wO ≠ b77 := (hsn77 _ (Safe.exa hZ.alike cx85 (by decide) (by decide))).1
          have ne_wO_t77 : wO ≠ t77 := (hsn77 _ (Safe.exa hZ.alike cx85 (by decide) (by decide))).2
          have cx86 : Exa Z h77 wM "com/example/object_access_rules/objectaccessrules/StatusCode" := zf_E_wM.ext O79.2
          have ne_wM_b77 : wM ≠ b77 := (hsn77 _ (Safe.exa hZ.alike cx86 (by decide) (by decide))).1
          have ne_wM_t77 : wM ≠ t77 := (hsn77 _ (Safe.exa hZ.alike cx86 (by decide) (by decide))).2
          have cx87 : Exa Z h77 wG "com/example/object_access_rules/objectaccessrules/StatusCode" := zf_E_wG.ext O79.2
          have ne_wG_b77 : wG ≠ b77 := (hsn77 _ (Safe.exa hZ.alike cx87 (by decide) (by decide))).1
          have ne_wG_t77 : wG ≠ t77 := (hsn77 _ (Safe.exa hZ.alike cx87 (by decide) (by decide))).2
          have cx88 : Exa Z h77 wY "com/example/object_access_rules/objectaccessrules/StatusCode" := zf_E_wY.ext O79.2
          have ne_wY_b77 : wY ≠ b77 := (hsn77 _ (Safe.exa hZ.alike cx88 (by decide) (by decide))).1
          have ne_wY_t77 : wY ≠ t77 := (hsn77 _ (Safe.exa hZ.alike cx88 (by decide) (by decide))).2
          have cx89 : Exa Z h77 z64_0 "com/example/object_access_rules/objectaccessrules/StatusCode" := (E_z64_0.ext E77)
          have ne_z64_0_b77 : z64_0 ≠ b77 := (hsn77 _ (Safe.exa hZ.alike cx89 (by decide) (by decide))).1
          have ne_z64_0_t77 : z64_0 ≠ t77 := (hsn77 _ (Safe.exa hZ.alike cx89 (by decide) (by decide))).2
          refine own_via (S' := T77.setTop (mkF m 129 #[.val (.int p0), .val (.int p1), .val (.int p2), .val (.int p3), .val (.int p4), .val (.int p5), .val (.int kk), .val (.ref wI), .val (.ref z64_0), .unset, .val (.int ee), .unset, .unset, .unset, .unset, .unset] [(.ref b77)])) st77 ?_
          refine own_via (S' := T77.setTop (mkF m 131 #[.val (.int p0), .val (.int p1), .val (.int p2), .val (.int p3), .val (.int p4), .val (.int p5), .val (.int kk), .val (.ref wI), .val (.ref z64_0), .val (.ref b77), .val (.int ee), .unset, .unset, .unset, .unset, .unset] [])) (fun t k => XS.astore X77.here hx rfl (hb hby at_129) rfl rfl (l' := #[.val (.int p0), .val (.int p1), .val (.int p2), .val (.int p3), .val (.int p4), .val (.int p5), .val (.int kk), .val (.ref wI), .val (.ref z64_0), .val (.ref b77), .val (.int ee), .unset, .unset, .unset, .unset, .unset]) rfl k) ?_
          refine own_via (S' := T77.setTop (mkF m 143 #[.val (.int p0), .val (.int p1), .val (.int p2), .val (.int p3), .val (.int p4), .val (.int p5), .val (.int kk), .val (.ref wI), .val (.ref z64_0), .val (.ref b77), .val (.int ee), .unset, .unset, .unset, .unset, .unset] [])) (fun t k => XS.goto X77.here hx rfl (pc0 := 131) (pc' := 143) rfl (hb hby at_131) (by decide) (by decide) k) ?_
          exact own_tail l Z a0 hw p0 p1 p2 p3 p4 p5 kk wI z64_0 b77 t77 kb77 (0 : Int32) [] (.val (.int ee)) (.unset) zc wP wD wN wI wO wM wG wY h0 n0 h77 (X77.mono (by decide) (by decide)) hx hZ hby hml hown Bd.returns Bd.notSynchronized hh hS77 (by omega) R80 O79 N0 e77 zf_S_java_lang_String_COMPACT_STRINGS zf_S_com_example_object_access_rules_objectaccessrules_Decision_PERMIT zf_S_com_example_object_access_rules_objectaccessrules_Decision_DENY zf_S_com_example_object_access_rules_objectaccessrules_Decision_NOT_APPLICABLE zf_S_com_example_object_access_rules_objectaccessrules_Decision_INDETERMINATE zf_S_com_example_object_access_rules_objectaccessrules_StatusCode_OK zf_S_com_example_object_access_rules_objectaccessrules_StatusCode_MISSING_ATTRIBUTE zf_S_com_example_object_access_rules_objectaccessrules_StatusCode_PROCESSING_ERROR zf_S_com_example_object_access_rules_objectaccessrules_StatusCode_SYNTAX_ERROR zf_E_wD zf_E_wO cx84 cx89 f77_0 f77_2 f77_3 (One.val rfl) One.u (Or.inl ⟨rfl, own_scx hS hz64_0⟩) hzc hD hS
        · -- no
          refine own_via (S' := Tm64.setTop (mkF m 97 #[.val (.int p0), .val (.int p1), .val (.int p2), .val (.int p3), .val (.int p4), .val (.int p5), .val (.int kk), .val (.ref wI), .val (.ref z64_0), .unset, .val (.int ee), .unset, .unset, .unset, .unset, .unset] [])) (fun t k => XS.ifNo Xm64.here hx rfl (hb hby at_94) rfl ((if0 _ _).trans (feq hc94_76).1) k) ?_
          refine own_via (S' := Tm64.setTop (mkF m 98 #[.val (.int p0), .val (.int p1), .val (.int p2), .val (.int p3), .val (.int p4), .val (.int p5), .val (.int kk), .val (.ref wI), .val (.ref z64_0), .unset, .val (.int ee), .unset, .unset, .unset, .unset, .unset] [(.int (1 : Int32))])) (fun t k => XS.iconst Xm64.here hx rfl (hb hby at_97) k) ?_
          obtain ⟨T90, h90, k90, X90, e90, E90, A90, st90⟩ := newP (aty := .char) Xm64 hx hZ (wd104 hw) em64 (g := (mkF m 98 #[.val (.int p0), .val (.int p1), .val (.int p2), .val (.int p3), .val (.int p4), .val (.int p5), .val (.int kk), .val (.ref wI), .val (.ref z64_0), .unset, .val (.int ee), .unset, .unset, .unset, .unset, .unset] [(.int (1 : Int32))])) rfl (hb hby at_98) rfl (by decide : ¬ ((1 : Int32) < (0 : Int32))) (cap := 1) (by decide) (by decide) (by decide) (by decide)
          obtain ⟨b90, g90⟩ : ∃ z, z = h0.size := ⟨_, rfl⟩
          rw [← g90] at A90 st90
          have lt_b90 : h90.size > b90 := A90.lt
          have sz91 : h0.size ≤ h90.size := E90.1
          have O92 : Old Z n0 h90 := O0.ext E90
          have R93 : CHr Z own_EL s.vm h0 s.vm h90 := R0.trans (CHr.ext E90 R0.1)
          have V90 : Arv Z h90 b90 k90 .char (1 : Int32) [(.int (0 : Int32))] (.int (0 : Int32)) := (Arv.new A90 (by decide)).pad (pad_rep [] (.int (0 : Int32)) 1)
          refine own_via (S' := T90.setTop (mkF m 100 #[.val (.int p0), .val (.int p1), .val (.int p2), .val (.int p3), .val (.int p4), .val (.int p5), .val (.int kk), .val (.ref wI), .val (.ref z64_0), .unset, .val (.int ee), .unset, .unset, .unset, .unset, .unset] [(.ref b90)])) st90 ?_
          refine own_via (S' := T90.setTop (mkF m 102 #[.val (.int p0), .val (.int p1), .val (.int p2), .val (.int p3), .val (.int p4), .val (.int p5), .val (.int kk), .val (.ref wI), .val (.ref z64_0), .unset, .val (.int ee), .val (.ref b90), .unset, .unset, .unset, .unset] [])) (fun t k => XS.astore X90.here hx rfl (hb hby at_100) rfl rfl (l' := #[.val (.int p0), .val (.int p1), .val (.int p2), .val (.int p3), .val (.int p4), .val (.int p5), .val (.int kk), .val (.ref wI), .val (.ref z64_0), .unset, .val (.int ee), .val (.ref b90), .unset, .unset, .unset, .unset]) rfl k) ?_
          refine own_via (S' := T90.setTop (mkF m 104 #[.val (.int p0), .val (.int p1), .val (.int p2), .val (.int p3), .val (.int p4), .val (.int p5), .val (.int kk), .val (.ref wI), .val (.ref z64_0), .unset, .val (.int ee), .val (.ref b90), .unset, .unset, .unset, .unset] [(.ref b90)])) (fun t k => XS.aload X90.here hx rfl (hb hby at_102) rfl rfl k) ?_
          refine own_via (S' := T90.setTop (mkF m 105 #[.val (.int p0), .val (.int p1), .val (.int p2), .val (.int p3), .val (.int p4), .val (.int p5), .val (.int kk), .val (.ref wI), .val (.ref z64_0), .unset, .val (.int ee), .val (.ref b90), .unset, .unset, .unset, .unset] [(.int (0 : Int32)), (.ref b90)])) (fun t k => XS.iconst X90.here hx rfl (hb hby at_104) k) ?_
          refine own_via (S' := T90.setTop (mkF m 107 #[.val (.int p0), .val (.int p1), .val (.int p2), .val (.int p3), .val (.int p4), .val (.int p5), .val (.int kk), .val (.ref wI), .val (.ref z64_0), .unset, .val (.int ee), .val (.ref b90), .unset, .unset, .unset, .unset] [(.int p5), (.int (0 : Int32)), (.ref b90)])) (fun t k => XS.iload X90.here hx rfl (hb hby at_105) rfl k) ?_
          refine own_via (S' := T90.setTop (mkF m 110 #[.val (.int p0), .val (.int p1), .val (.int p2), .val (.int p3), .val (.int p4), .val (.int p5), .val (.int kk), .val (.ref wI), .val (.ref z64_0), .unset, .val (.int ee), .val (.ref b90), .unset, .unset, .unset, .unset] [(.int (255 : Int32)), (.int p5), (.int (0 : Int32)), (.ref b90)])) (fun t k => XS.sipush X90.here hx rfl (hb hby at_107) k) ?_
          refine own_via (S' := T90.setTop (mkF m 111 #[.val (.int p0), .val (.int p1), .val (.int p2), .val (.int p3), .val (.int p4), .val (.int p5), .val (.int kk), .val (.ref wI), .val (.ref z64_0), .unset, .val (.int ee), .val (.ref b90), .unset, .unset, .unset, .unset] [(.int (p5 &&& (255 : Int32))), (.int (0 : Int32)), (.ref b90)])) (fun t k => XS.iand X90.here hx rfl (hb hby at_110) rfl k) ?_
          refine own_via (S' := T90.setTop (mkF m 112 #[.val (.int p0), .val (.int p1), .val (.int p2), .val (.int p3), .val (.int p4), .val (.int p5), .val (.int kk), .val (.ref wI), .val (.ref z64_0), .unset, .val (.int ee), .val (.ref b90), .unset, .unset, .unset, .unset] [(.int ((p5 &&& (255 : Int32)).toUInt32.toUInt16.toUInt32.toInt32)), (.int (0 : Int32)), (.ref b90)])) (fun t k => XS.i2c X90.here hx rfl (hb hby at_111) rfl k) ?_
          obtain ⟨ch0, hn_ch0⟩ : ∃ z : Int32, z = ((p5 &&& (255 : Int32)).toUInt32.toUInt16.toUInt32.toInt32) := ⟨_, rfl⟩
          rw [← hn_ch0]
          have rng_ch0 : ¬ ch0 < 0 ∧ ¬ (255 : Int32) < ch0 := by rw [hn_ch0]; exact own_and255 _
          obtain ⟨cl94, Ar94, q94, S94, M94, H94, U94⟩ := id V90
          obtain ⟨T94, h94, X94, e94, W94, st94⟩ := stC X90 hx hZ e90 Ar94 (j := (0 : Int32)) (inb_of S94 ⟨by decide, by decide⟩) (g := (mkF m 112 #[.val (.int p0), .val (.int p1), .val (.int p2), .val (.int p3), .val (.int p4), .val (.int p5), .val (.int kk), .val (.ref wI), .val (.ref z64_0), .unset, .val (.int ee), .val (.ref b90), .unset, .unset, .unset, .unset] [(.int ch0), (.int (0 : Int32)), (.ref b90)])) rfl rfl (hb hby at_112)
          have sf94 : Safe Z own_EL s.vm h90 b90 := (Safe.arv hZ.alike V90 (by decide))
          have sz95 : h90.size ≤ h94.size := Nat.le_of_eq W94.size.symm
          have R96 : CHr Z own_EL s.vm h0 s.vm h94 := R93.trans (CHr.wr W94 sf94 R93.1)
          have O97 : Old Z n0 h94 := O92.wr W94 (by omega : n0 ≤ b90)
          have N94 := Fr.snoc X94 N0 (by omega : n0 ≤ b90)
          rw [own_narc rng_ch0] at W94
          have V94 : Arv Z h94 b90 k90 .char (1 : Int32) [(.int ch0)] (.int (0 : Int32)) := Arv.set Ar94 q94 S94 M94 H94 U94 (own_fitc rng_ch0) W94 0 rfl (Nat.le_of_ble_eq_true rfl)
          refine own_via (S' := T94.setTop (mkF m 113 #[.val (.int p0), .val (.int p1), .val (.int p2), .val (.int p3), .val (.int p4), .val (.int p5), .val (.int kk), .val (.ref wI), .val (.ref z64_0), .unset, .val (.int ee), .val (.ref b90), .unset, .unset, .unset, .unset] [])) st94 ?_
          obtain ⟨T98, h98, X98, e98, E98, A98, D98, -, st98⟩ := newO X94 hx hZ hown (wd105 hw) (wd10 hw) (wd9 hw) e94 (g := (mkF m 113 #[.val (.int p0), .val (.int p1), .val (.int p2), .val (.int p3), .val (.int p4), .val (.int p5), .val (.int kk), .val (.ref wI), .val (.ref z64_0), .unset, .val (.int ee), .val (.ref b90), .unset, .unset, .unset, .unset] [])) rfl (hb hby at_113) (by decide) (by decide)
          obtain ⟨b98, g98⟩ : ∃ z, z = h94.size := ⟨_, rfl⟩
          rw [← g98] at A98 D98 st98
          have lt_b98 : h98.size > b98 := A98.lt
          have sz99 : h94.size ≤ h98.size := E98.1
          have O100 : Old Z n0 h98 := O97.ext E98
          have R101 : CHr Z own_EL s.vm h0 s.vm h98 := R96.trans (CHr.ext E98 R96.1)
          have SF_b98 : Safe Z own_EL s.vm h98 b98 := Safe.ext E98 R96.1 (Safe.new (Nat.le_of_eq g98.symm))
          have F98_value : Fld Z h98 b98 "java/lang/String" "value" "[B" .null := D98 (Or.inr (wd12 hw)) (ty := (.array .byte)) (by decide)
          have F98_coder : Fld Z h98 b98 "java/lang/String" "coder" "B" (.int (0 : Int32)) := D98 (Or.inr (wd13 hw)) (ty := .byte) (by decide)
          refine own_via (S' := T98.setTop (mkF m 116 #[.val (.int p0), .val (.int p1), .val (.int p2), .val (.int p3), .val (.int p4), .val (.int p5), .val (.int kk), .val (.ref wI), .val (.ref z64_0), .unset, .val (.int ee), .val (.ref b90), .unset, .unset, .unset, .unset] [(.ref b98)])) st98 ?_
          refine own_via (S' := T98.setTop (mkF m 117 #[.val (.int p0), .val (.int p1), .val (.int p2), .val (.int p3), .val (.int p4), .val (.int p5), .val (.int kk), .val (.ref wI), .val (.ref z64_0), .unset, .val (.int ee), .val (.ref b90), .unset, .unset, .unset, .unset] [(.ref b98), (.ref b98)])) (fun t k => XS.dup X98.here hx rfl (hb hby at_116) rfl rfl k) ?_
          refine own_via (S' := T98.setTop (mkF m 119 #[.val (.int p0), .val (.int p1), .val (.int p2), .val (.int p3), .val (.int p4), .val (.int p5), .val (.int kk), .val (.ref wI), .val (.ref z64_0), .unset, .val (.int ee), .val (.ref b90), .unset, .unset, .unset, .unset] [(.ref b90), (.ref b98), (.ref b98)])) (fun t k => XS.aload X98.here hx rfl (hb hby at_117) rfl rfl k) ?_
          have cx103 : Arv Z h98 b90 k90 .char (1 : Int32) [(.int ch0)] (.int (0 : Int32)) := (V94.ext E98)
          have cx104 : Sta Z h98 "java/lang/String" "COMPACT_STRINGS" "Z" (.int zc) := zf_S_java_lang_String_COMPACT_STRINGS.ext O100.2
          have hws102 := own_mw hw
          have hp102 : ∀ c ∈ ([ch0] : List Int32), ¬ c < 0 ∧ ¬ (255 : Int32) < c := by
            intro c hc
            simp only [List.mem_cons, List.not_mem_nil, or_false] at hc
            rcases hc with rfl
            · exact rng_ch0
          obtain ⟨_, _, ⟨T102, Lp102, kp102, np102⟩, -, X102, ⟨Lc102, hQ102, l102, y102, z102⟩, st102⟩ := X98.specialBack hx (y := mt11) rfl hown (mvT hZ (wd106 hw)) (mvT hZ (wd107 hw)) (mvT hZ (wd108 hw)) (by decide) (StrChars.Road.backV (W := 1) hZ hws102 (kI := 4) (wd10 hw) (cs := ([ch0] : List Int32)) (bs := (([ch0] : List Int32)).map (fun c => c.toInt8.toInt32)) (n := 1) (by omega : n0 ≤ b98) (by omega : n0 ≤ h98.size) A98 F98_value F98_coder cx103 cx104 hzc rfl rfl (by decide) (by decide) hp102 rfl (by decide) (by decide)) (g := (mkF m 119 #[.val (.int p0), .val (.int p1), .val (.int p2), .val (.int p3), .val (.int p4), .val (.int p5), .val (.int kk), .val (.ref wI), .val (.ref z64_0), .unset, .val (.int ee), .val (.ref b90), .unset, .unset, .unset, .unset] [(.ref b90), (.ref b98), (.ref b98)])) rfl (by rw [hml]; rfl) (Steps.refl _) (a := b98) (argsL := [(.ref b90)]) (rest := [(.ref b98)]) (lenOf pd___C_V_325 rfl) rfl (by show 2 * 0 + _ ≤ _; exact Nat.le_of_eq rfl) (hb hby at_119) (fun _ _ => ⟨rfl, e98, (by decide : 2 + 1 ≤ _), (by decide : 5 + 1 ≤ _)⟩)
          dsimp only [Pt.U, Pt.locs, Pt.cells, Pt.slots] at X102 l102 y102 z102 st102 hQ102
          subst Lp102 kp102 np102
          obtain ⟨rfl, N102q, K102q, f102_0, f102_1, t102, kb102, tg102, tg102', tn102, f102_2, f102_3⟩ := hQ102
          have N102 := Fr.app N94 N102q
          have sf102 : ∀ x ∈ ([b98] : List Addr), Safe Z own_EL s.vm h98 x := (sfS SF_b98 sf0)
          have sz105 : h98.size ≤ T102.heap.size := K102q.1
          have R106 : CHr Z own_EL s.vm h0 s.vm T102.heap := R101.trans (CHr.keep K102q sf102 R101.1)
          have O107 : Old Z n0 T102.heap := O100.keep K102q (allS (by omega : n0 ≤ b98) all0)
          have lt_t102 : T102.heap.size > t102 := f102_3.lt
          refine own_tr (S' := T102.setTop (mkF m 122 #[.val (.int p0), .val (.int p1), .val (.int p2), .val (.int p3), .val (.int p4), .val (.int p5), .val (.int kk), .val (.ref wI), .val (.ref z64_0), .unset, .val (.int ee), .val (.ref b90), .unset, .unset, .unset, .unset] [(.ref b98)])) st102 ?_
          refine own_via (S' := T102.setTop (mkF m 124 #[.val (.int p0), .val (.int p1), .val (.int p2), .val (.int p3), .val (.int p4), .val (.int p5), .val (.int kk), .val (.ref wI), .val (.ref z64_0), .val (.ref b98), .val (.int ee), .val (.ref b90), .unset, .unset, .unset, .unset] [])) (fun t k => XS.astore X102.here hx rfl (hb hby at_122) rfl rfl (l' := #[.val (.int p0), .val (.int p1), .val (.int p2), .val (.int p3), .val (.int p4), .val (.int p5), .val (.int kk), .val (.ref wI), .val (.ref z64_0), .val (.ref b98), .val (.int ee), .val (.ref b90), .unset, .unset, .unset, .unset]) rfl k) ?_
          refine own_via (S' := T102.setTop (mkF m 131 #[.val (.int p0), .val (.int p1), .val (.int p2), .val (.int p3), .val (.int p4), .val (.int p5), .val (.int kk), .val (.ref wI), .val (.ref z64_0), .val (.ref b98), .val (.int ee), .val (.ref b90), .unset, .unset, .unset, .unset] [])) (fun t k => XS.goto X102.here hx rfl (pc0 := 124) (pc' := 131) rfl (hb hby at_124) (by decide) (by decide) k) ?_
          refine own_via (S' := T102.setTop (mkF m 143 #[.val (.int p0), .val (.int p1), .val (.int p2), .val (.int p3), .val (.int p4), .val (.int p5), .val (.int kk), .val (.ref wI), .val (.ref z64_0), .val (.ref b98), .val (.int ee), .val (.ref b90), .unset, .unset, .unset, .unset] [])) (fun t k => XS.goto X102.here hx rfl (pc0 := 131) (pc' := 143) rfl (hb hby at_131) (by decide) (by decide) k) ?_
          have cx108 : Exa Z T102.heap wI "com/example/object_access_rules/objectaccessrules/Decision" := zf_E_wI.ext O107.2
          have cx109 : Exa Z T102.heap z64_0 "com/example/object_access_rules/objectaccessrules/StatusCode" := (((Exa.wr W94 (E_z64_0.ext E90)).ext E98).keep K102q)
          exact own_tail l Z a0 hw p0 p1 p2 p3 p4 p5 kk wI z64_0 b98 t102 kb102 (1 : Int32) [(.int (ch0.toInt8.toInt32))] (.val (.int ee)) (.val (.ref b90)) zc wP wD wN wI wO wM wG wY h0 n0 T102.heap (X102.mono (by decide) (by decide)) hx hZ hby hml hown Bd.returns Bd.notSynchronized hh hS0 (by omega) R106 O107 N102 rfl zf_S_java_lang_String_COMPACT_STRINGS zf_S_com_example_object_access_rules_objectaccessrules_Decision_PERMIT zf_S_com_example_object_access_rules_objectaccessrules_Decision_DENY zf_S_com_example_object_access_rules_objectaccessrules_Decision_NOT_APPLICABLE zf_S_com_example_object_access_rules_objectaccessrules_Decision_INDETERMINATE zf_S_com_example_object_access_rules_objectaccessrules_StatusCode_OK zf_S_com_example_object_access_rules_objectaccessrules_StatusCode_MISSING_ATTRIBUTE zf_S_com_example_object_access_rules_objectaccessrules_StatusCode_PROCESSING_ERROR zf_S_com_example_object_access_rules_objectaccessrules_StatusCode_SYNTAX_ERROR zf_E_wD zf_E_wO cx108 cx109 f102_0 f102_2 f102_3 (One.val rfl) (One.val rfl) (Or.inl ⟨rfl, own_scx hS hz64_0⟩) hzc hD hS
set_option maxRecDepth 65536 in
set_option maxHeartbeats 40000000 in
theorem comes_1 {Post : Tables → Env → Array Value → State → Outcome → State → Prop} (hpost : ∀ tb e args s v u, (limb_1_1.after args s (.returned v) u = true ∧ limb_1_2.after args s (.returned v) u = true ∧ True) → ReturnedEndW s (.returned v) u (Jvm.fieldLocs frame_1_writes args s ++ Jvm.arrayLocs frame_1_arrays args s ++ Jvm.staticLocs frame_1_statics s) 48 5312 → Post tb e args s (.returned v) u) :
    ArmFor flags0 classFile x code maxLocals ret World_1 tables_1 room_1 Calls_1 rest_1 Pre_1 Post := by
  intro l hfl _ _ p e ha hc hk s m args below hf hA hF happ hP
  obtain ⟨hcalls, hrest, hpre⟩ := hP
  obtain ⟨-, -, -, hnamed, -, -, -, hat⟩ := (Spec.applies_iff hf).mp happ
  obtain ⟨hg, hn⟩ := and_e (Cond.before_iff.mp (show (Jvm.Cond.and given_1 narrow_1).before args s = true from hpre))
  obtain ⟨hcount, hg⟩ := and_e hg
  obtain ⟨hg0, hg⟩ := and_e hg
  obtain ⟨hg1, hg⟩ := and_e hg
  obtain ⟨hg2, hg⟩ := and_e hg
  obtain ⟨hg3, hg⟩ := and_e hg
  obtain ⟨hg4, hg⟩ := and_e hg
  have hg5 := hg
  obtain ⟨w0, w1, w2, w3, w4, w5, rfl⟩ : ∃ w0 w1 w2 w3 w4 w5 : Value, args = #[w0, w1, w2, w3, w4, w5] := by
    have hs : args.size = 6 := by simpa [Cond.value, given_1] using hcount
    obtain ⟨L⟩ := args
    match L, hs with
    | [w0, w1, w2, w3, w4, w5], _ => exact ⟨w0, w1, w2, w3, w4, w5, rfl⟩
  have hw := fun d (hd : d ∈ tables_1) => atoms_spec (ws := Jvm.Cond.code x code maxLocals ret :: tables_1) hat d (List.mem_cons_of_mem _ hd)
  have hfit : Fit s := fun {y c} hc i hi => by
    obtain ⟨ha, rfl⟩ := Array.getElem?_eq_some_iff.mp hc
    have q := List.all_eq_true.mp ((Array.all_eq_true_iff_forall_mem.mp hF) _ (Array.getElem_mem ha)) i (List.mem_range.mpr hi)
    simpa [Array.getElem?_eq_getElem hi] using q
  obtain ⟨hsets, hown0⟩ := atoms_of _ (rest_1_c_eq ▸ (show rest_1_c.before _ s = true from hrest))
  have hr0 := Cond.before_iff.mp hown0
  obtain ⟨i0, ei0⟩ := is_v hg0
  obtain rfl : w0 = (.int i0) := Option.some.inj ei0
  obtain ⟨i1, ei1⟩ := is_v hg1
  obtain rfl : w1 = (.int i1) := Option.some.inj ei1
  obtain ⟨i2, ei2⟩ := is_v hg2
  obtain rfl : w2 = (.int i2) := Option.some.inj ei2
  obtain ⟨i3, ei3⟩ := is_v hg3
  obtain rfl : w3 = (.int i3) := Option.some.inj ei3
  obtain ⟨i4, ei4⟩ := is_v hg4
  obtain rfl : w4 = (.int i4) := Option.some.inj ei4
  obtain ⟨i5, ei5⟩ := is_v hg5
  obtain rfl : w5 = (.int i5) := Option.some.inj ei5
  obtain ⟨n0, hn⟩ := and_e hn
  obtain ⟨n1, hn⟩ := and_e hn
  obtain ⟨n2, hn⟩ := and_e hn
  obtain ⟨n3, hn⟩ := and_e hn
  obtain ⟨n4, hn⟩ := and_e hn
  obtain ⟨n5, hn⟩ := and_e hn
  obtain ⟨n6, hn⟩ := and_e hn
  obtain ⟨n7, hn⟩ := and_e hn
  obtain ⟨n8, hn⟩ := and_e hn
  obtain ⟨n9, hn⟩ := and_e hn
  obtain ⟨n10, hn⟩ := and_e hn
  obtain ⟨n11, hn⟩ := and_e hn
  obtain ⟨n12, hn⟩ := and_e hn
  obtain ⟨n13, hn⟩ := and_e hn
  obtain ⟨n14, hn⟩ := and_e hn
  have n15 := hn
  obtain ⟨wP, e_wP⟩ := exa_v n0
  have E_wP := Exa.start e_wP n0
  have S_wP := Sta.start e_wP (Or.inr ⟨(wd1 hw), (wd2 hw)⟩)
  obtain ⟨wI, e_wI⟩ := exa_v n1
  have E_wI := Exa.start e_wI n1
  have S_wI := Sta.start e_wI (Or.inr ⟨(wd1 hw), (wd4 hw)⟩)
  obtain ⟨wO, e_wO⟩ := exa_v n4
  have E_wO := Exa.start e_wO n4
  have S_wO := Sta.start e_wO (Or.inr ⟨(wd6 hw), (wd7 hw)⟩)
  obtain ⟨wN, e_wN⟩ := exa_v n5
  have E_wN := Exa.start e_wN n5
  have S_wN := Sta.start e_wN (Or.inr ⟨(wd1 hw), (wd82 hw)⟩)
  obtain ⟨wD, e_wD⟩ := exa_v n7
  have E_wD := Exa.start e_wD n7
  have S_wD := Sta.start e_wD (Or.inr ⟨(wd1 hw), (wd95 hw)⟩)
  obtain ⟨wY, e_wY⟩ := exa_v n9
  have E_wY := Exa.start e_wY n9
  have S_wY := Sta.start e_wY (Or.inr ⟨(wd6 hw), (wd101 hw)⟩)
  obtain ⟨wM, e_wM⟩ := exa_v n12
  have E_wM := Exa.start e_wM n12
  have S_wM := Sta.start e_wM (Or.inr ⟨(wd6 hw), (wd103 hw)⟩)
  obtain ⟨wG, e_wG⟩ := exa_v n14
  have E_wG := Exa.start e_wG n14
  have S_wG := Sta.start e_wG (Or.inr ⟨(wd6 hw), (wd123 hw)⟩)
  have o_wP := own_ord e_wP n2
  have o_wI := own_ord e_wI n3
  have o_wN := own_ord e_wN n6
  have o_wD := own_ord e_wD n8
  have o_wY := own_ord e_wY n10
  have o_wO := own_ord e_wO n11
  have o_wM := own_ord e_wM n13
  have o_wG := own_ord e_wG n15
  have ne_wP_wI : ¬ (wP = wI) := fun q => by rw [q, o_wI] at o_wP; simp at o_wP
  have ne_wP_wN : ¬ (wP = wN) := fun q => by rw [q, o_wN] at o_wP; simp at o_wP
  have ne_wP_wD : ¬ (wP = wD) := fun q => by rw [q, o_wD] at o_wP; simp at o_wP
  have ne_wI_wN : ¬ (wI = wN) := fun q => by rw [q, o_wN] at o_wI; simp at o_wI
  have ne_wI_wD : ¬ (wI = wD) := fun q => by rw [q, o_wD] at o_wI; simp at o_wI
  have ne_wN_wD : ¬ (wN = wD) := fun q => by rw [q, o_wD] at o_wN; simp at o_wN
  have ne_wY_wO : ¬ (wY = wO) := fun q => by rw [q, o_wO] at o_wY; simp at o_wY
  have ne_wY_wM : ¬ (wY = wM) := fun q => by rw [q, o_wM] at o_wY; simp at o_wY
  have ne_wY_wG : ¬ (wY = wG) := fun q => by rw [q, o_wG] at o_wY; simp at o_wY
  have ne_wO_wM : ¬ (wO = wM) := fun q => by rw [q, o_wM] at o_wO; simp at o_wO
  have ne_wO_wG : ¬ (wO = wG) := fun q => by rw [q, o_wG] at o_wO; simp at o_wO
  have ne_wM_wG : ¬ (wM = wG) := fun q => by rw [q, o_wG] at o_wM; simp at o_wM
  obtain ⟨zc, ez⟩ := is_v (Cond.before_iff.mp (hsets _ (List.mem_of_getElem? (i := 1) rfl)))
  have S_zc : Sta s s.heap "java/lang/String" "COMPACT_STRINGS" "Z" (.int zc) := Sta.start ez (Or.inl (hsets _ (List.mem_of_getElem? (i := 0) rfl)))
  have hzc : ¬ (zc = (0 : Int32)) := gotF (Cond.eq_ints ez (Term.int_eval (0))) (not_v (Cond.before_iff.mp (hsets _ (List.mem_of_getElem? (i := 2) rfl))))
  have hEL := own_EW hw
  have hCH : CHv s own_EL s.vm s.heap := CHv.start hEL hcalls.1 (hsets _ (List.mem_of_getElem? (i := 2) rfl)) (wd11 hw) (wd10 hw)
  obtain ⟨n, o, h1, h2, h3, _, L, rfl, ⟨rfl, N⟩, -, hq⟩ := own_law l s _ hw tables_1 i0 i1 i2 i3 i4 i5 zc wP wD wN wI wO wM wG wY s.heap s.heap.size (Old.start s) S_zc S_wP S_wD S_wN S_wI E_wP E_wD E_wN E_wI S_wO S_wM S_wG S_wY E_wO E_wM E_wG E_wY hzc ⟨ne_wP_wD, ne_wP_wN, ne_wP_wI, (fun q => ne_wN_wD q.symm), (fun q => ne_wI_wD q.symm), (fun q => ne_wI_wN q.symm)⟩ ⟨ne_wO_wM, ne_wO_wG, (fun q => ne_wY_wO q.symm), ne_wM_wG, (fun q => ne_wY_wM q.symm), (fun q => ne_wY_wG q.symm)⟩ p e ha hc hk s m _ below hf ((Spec.applies_iff_loose hf).mp happ).1 ⟨rfl, State.Warmed39.refl s, rfl, hCH, fun _ q => nomatch q⟩ trivial
  refine ⟨n, _, h1, h2, h3, hpost _ _ _ _ _ _ ⟨Cond.after_iff.mpr rfl, Cond.after_iff.mpr (eq_i res_at (Term.int_eval (1)) rfl), trivial⟩ ⟨hq.1, hq.2.1, hq.2.2.1, (hq.2.2.2.sift fun y hy => Or.inr (N y hy)).mono (by decide) (by decide)⟩⟩
theorem main_1_1 : Claimed_1_1 := comes_1 fun _ _ _ _ _ _ h hF => ⟨h.1, hF⟩
theorem main_1_2 : Claimed_1_2 := comes_1 fun _ _ _ _ _ _ h hF => ⟨h.2.1, hF⟩
end Jvm.Pilot.@@N@@
namespace Jvm.Pilot.@@N@@
open Jvm Jvm.ClassFile Sem Op Lib Jvm.Free Jvm.Stand Jvm.Pilot.@@N@@.Jvm.D
/-! MADE BY PROGRAM (witnessworld.py) out of the Statement's table words and the real class files: 24 classes; the members and pool entries that the words name. The judged class is class 1, her method 1. -/
namespace start1
open Jvm.ClassFile
def u (s : String) : CpInfo := .utf8 (stringToUtf16 s)
/-- a pool by its gaps: so many unusable entries, then the entry; so many at the end -/
def gap : Nat → List CpInfo → List CpInfo
  | 0, r => r
  | n + 1, r => .unusable :: gap n r
def poolList (es : List (Nat × CpInfo)) (last : Nat) : List CpInfo := es.foldr (fun e r => gap e.1 (e.2 :: r)) (gap last [])
def pool (es : List (Nat × CpInfo)) (last : Nat) : Array CpInfo := ⟨poolList es last⟩
def fileOf (pool : Array CpInfo) (this : Nat) (attrs : Array Attribute := #[]) (ms : Array MethodInfo := #[]) (fl : Nat := 33) (sup : Nat := 0) (ifs : Array Nat := #[]) (fds : Array FieldInfo := #[]) : ClassFile where
  minorVersion := 0
  majorVersion := 65
  constantPool := pool
  accessFlags := fl
  thisClass := this
  superClass := sup
  interfaces := ifs
  fields := fds
  methods := ms
  attributes := attrs
def plain (name : String) (sup : Option ClassId) : Class where
  name := name
  kind := .ordinary
  loader := none
  accessFlags := 33
  super := sup
  interfaces := #[]
  cf := none
  fields := #[]
  methods := #[]
  instanceTypes := #[]
  staticTypes := #[]
  resolved := #[]
  callSites := []
  init := .initialized
  statics := none
  mirror := none

def pool0 : Array CpInfo := pool [(5, u "<init>"), (0, u "()V"), (1, .class_ 10), (1, u "java/lang/Object")] 113

def k0c0 : Code := { maxStack := 0, maxLocals := 1, code := object_method_1_code, exceptionTable := #[], attributes := #[] }
def k0m0 : Method := { name := "<init>", desc := "()V", sig := { parameters := [], returnType := none }, accessFlags := 1, code := some k0c0 }
/-- java/lang/Object -/
def k0 : Class := { plain "java/lang/Object" none with
  accessFlags := 33
  interfaces := #[]
  cf := some (fileOf pool0 8 #[] #[{ accessFlags := 1, nameIndex := 5, descriptorIndex := 6, attributes := #[] }] 33 0 #[] #[])
  fields := #[]
  methods := #[k0m0]
  instanceTypes := #[]
  staticTypes := #[]
  resolved := Array.replicate 124 none
  statics := none }

def pool1 : Array CpInfo := pool [(2, .class_ 4), (1, u "java/lang/Object"), (0, u "<init>"), (0, u "()V"), (0, .fieldref 8 9), (0, .class_ 10), (0, .nameAndType 11 12), (0, u "com/example/object_access_rules/objectaccessrules/Decision"), (0, u "PERMIT"), (0, u "Lcom/example/object_access_rules/objectaccessrules/Decision;"), (0, .fieldref 8 14), (0, .nameAndType 15 12), (0, u "DENY"), (0, .fieldref 8 17), (0, .nameAndType 18 12), (0, u "NOT_APPLICABLE"), (0, .fieldref 8 20), (0, .nameAndType 21 12), (0, u "INDETERMINATE"), (0, .integer 2147483647), (0, .fieldref 24 25), (0, .class_ 26), (0, .nameAndType 27 28), (0, u "com/example/object_access_rules/objectaccessrules/StatusCode"), (0, u "MISSING_ATTRIBUTE"), (0, u "Lcom/example/object_access_rules/objectaccessrules/StatusCode;"), (0, .fieldref 24 30), (0, .nameAndType 31 28), (0, u "PROCESSING_ERROR"), (0, .fieldref 24 33), (0, .nameAndType 34 28), (0, u "SYNTAX_ERROR"), (0, .class_ 36), (0, u "java/lang/String"), (0, .methodref 35 38), (0, .nameAndType 5 39), (0, u "([C)V"), (0, .string 41), (0, u ""), (0, .fieldref 24 43), (0, .nameAndType 44 28), (0, u "OK"), (0, .class_ 46), (0, u "com/example/object_access_rules/objectaccessrules/Result"), (0, .methodref 45 48), (0, .nameAndType 5 49), (0, u "(Lcom/example/object_access_rules/objectaccessrules/Decision;Lcom/example/object_access_rules/objectaccessrules/StatusCode;Ljava/lang/String;)V"), (0, .methodref 35 51), (0, .nameAndType 52 53), (0, u "valueOf"), (0, u "(C)Ljava/lang/String;"), (0, .methodref 45 55), (0, .nameAndType 56 57), (0, u "through"), (0, u "(Ljava/lang/String;)Lcom/example/object_access_rules/objectaccessrules/Result;"), (0, .methodref 45 59), (0, .nameAndType 60 61), (0, u "asDeny"), (0, u "()Lcom/example/object_access_rules/objectaccessrules/Result;"), (0, .methodref 45 63), (0, .nameAndType 64 61), (0, u "origin"), (0, .class_ 66), (0, u "com/example/object_access_rules/objectaccessrules/ResultOriginPinLaw"), (2, u "law"), (0, u "(IIIIII)Z")] 3

def k1m0 : Method := { name := "<init>", desc := "()V", sig := { parameters := [], returnType := none }, accessFlags := 1, code := none }
def k1c1 : Code := { maxStack := 5, maxLocals := 16, code := code, exceptionTable := #[], attributes := #[] }
def k1m1 : Method := { name := "law", desc := "(IIIIII)Z", sig := { parameters := [.int, .int, .int, .int, .int, .int], returnType := some .boolean }, accessFlags := 9, code := some k1c1 }
/-- com/example/object_access_rules/objectaccessrules/ResultOriginPinLaw -/
def k1 : Class := { plain "com/example/object_access_rules/objectaccessrules/ResultOriginPinLaw" (some 0) with
  accessFlags := 49
  interfaces := #[]
  cf := some (fileOf pool1 65 #[] #[{ accessFlags := 1, nameIndex := 5, descriptorIndex := 6, attributes := #[] }, { accessFlags := 9, nameIndex := 69, descriptorIndex := 70, attributes := #[] }] 49 2 #[] #[])
  fields := #[]
  methods := #[k1m0, k1m1]
  instanceTypes := #[]
  staticTypes := #[]
  resolved := Array.replicate 74 none
  statics := none }

def pool2 : Array CpInfo := pool [(1, .class_ 2), (0, u "java/lang/constant/Constable"), (0, .class_ 4), (0, u "java/lang/Object")] 6

/-- java/lang/constant/Constable -/
def k2 : Class := { plain "java/lang/constant/Constable" (some 0) with
  accessFlags := 1537
  interfaces := #[]
  cf := some (fileOf pool2 1 #[] #[] 1537 3 #[] #[])
  fields := #[]
  methods := #[]
  instanceTypes := #[]
  staticTypes := #[]
  resolved := Array.replicate 11 none
  statics := none }

def pool3 : Array CpInfo := pool [(1, .class_ 2), (0, u "java/lang/Comparable"), (0, .class_ 4), (0, u "java/lang/Object")] 7

/-- java/lang/Comparable -/
def k3 : Class := { plain "java/lang/Comparable" (some 0) with
  accessFlags := 1537
  interfaces := #[]
  cf := some (fileOf pool3 1 #[] #[] 1537 3 #[] #[])
  fields := #[]
  methods := #[]
  instanceTypes := #[]
  staticTypes := #[]
  resolved := Array.replicate 12 none
  statics := none }

def pool4 : Array CpInfo := pool [(1, .class_ 2), (0, u "java/io/Serializable"), (0, .class_ 4), (0, u "java/lang/Object")] 2

/-- java/io/Serializable -/
def k4 : Class := { plain "java/io/Serializable" (some 0) with
  accessFlags := 1537
  interfaces := #[]
  cf := some (fileOf pool4 1 #[] #[] 1537 3 #[] #[])
  fields := #[]
  methods := #[]
  instanceTypes := #[]
  staticTypes := #[]
  resolved := Array.replicate 7 none
  statics := none }

def pool5 : Array CpInfo := pool [(2, .class_ 4), (1, u "java/lang/Enum"), (0, u "name"), (0, u "Ljava/lang/String;"), (2, u "ordinal"), (0, u "I"), (1, .class_ 14), (1, u "java/lang/Object"), (4, u "hash"), (86, .class_ 108), (1, u "java/lang/Enum$EnumDesc"), (2, .class_ 112), (0, u "java/lang/constant/Constable"), (0, .class_ 114), (0, u "java/lang/Comparable"), (0, .class_ 116), (0, u "java/io/Serializable")] 87

/-- java/lang/Enum -/
def k5 : Class := { plain "java/lang/Enum" (some 0) with
  accessFlags := 1057
  interfaces := #[2, 3, 4]
  cf := some (fileOf pool5 2 #[.nestMembers #[106]] #[] 1057 12 #[111, 113, 115] #[{ accessFlags := 18, nameIndex := 5, descriptorIndex := 6, attributes := #[] }, { accessFlags := 18, nameIndex := 9, descriptorIndex := 10, attributes := #[] }, { accessFlags := 2, nameIndex := 19, descriptorIndex := 10, attributes := #[] }])
  fields := #[{ name := "name", type := (.object "java/lang/String"), accessFlags := 18, slot := 0, constantValue := 0 }, { name := "ordinal", type := .int, accessFlags := 18, slot := 1, constantValue := 0 }, { name := "hash", type := .int, accessFlags := 2, slot := 2, constantValue := 0 }]
  methods := #[]
  instanceTypes := #[(.object "java/lang/String"), .int, .int]
  staticTypes := #[]
  resolved := Array.replicate 204 none
  statics := none }

def pool6 : Array CpInfo := pool [(1, .class_ 2), (0, u "com/example/object_access_rules/objectaccessrules/Decision"), (2, u "PERMIT"), (0, u "Lcom/example/object_access_rules/objectaccessrules/Decision;"), (2, u "DENY"), (2, u "NOT_APPLICABLE"), (2, u "INDETERMINATE"), (2, u "$VALUES"), (0, u "[Lcom/example/object_access_rules/objectaccessrules/Decision;"), (6, .class_ 28), (1, u "java/lang/Enum"), (8, u "xacmlName"), (0, u "Ljava/lang/String;")] 32

/-- com/example/object_access_rules/objectaccessrules/Decision -/
def k6 : Class := { plain "com/example/object_access_rules/objectaccessrules/Decision" (some 5) with
  accessFlags := 16433
  interfaces := #[]
  cf := some (fileOf pool6 1 #[] #[] 16433 26 #[] #[{ accessFlags := 16409, nameIndex := 5, descriptorIndex := 6, attributes := #[] }, { accessFlags := 16409, nameIndex := 9, descriptorIndex := 6, attributes := #[] }, { accessFlags := 16409, nameIndex := 12, descriptorIndex := 6, attributes := #[] }, { accessFlags := 16409, nameIndex := 15, descriptorIndex := 6, attributes := #[] }, { accessFlags := 18, nameIndex := 37, descriptorIndex := 38, attributes := #[] }, { accessFlags := 4122, nameIndex := 18, descriptorIndex := 19, attributes := #[] }])
  fields := #[{ name := "PERMIT", type := (.object "com/example/object_access_rules/objectaccessrules/Decision"), accessFlags := 16409, slot := 0, constantValue := 0 }, { name := "DENY", type := (.object "com/example/object_access_rules/objectaccessrules/Decision"), accessFlags := 16409, slot := 1, constantValue := 0 }, { name := "NOT_APPLICABLE", type := (.object "com/example/object_access_rules/objectaccessrules/Decision"), accessFlags := 16409, slot := 2, constantValue := 0 }, { name := "INDETERMINATE", type := (.object "com/example/object_access_rules/objectaccessrules/Decision"), accessFlags := 16409, slot := 3, constantValue := 0 }, { name := "xacmlName", type := (.object "java/lang/String"), accessFlags := 18, slot := 3, constantValue := 0 }, { name := "$VALUES", type := (.array (.object "com/example/object_access_rules/objectaccessrules/Decision")), accessFlags := 4122, slot := 4, constantValue := 0 }]
  methods := #[]
  instanceTypes := #[(.object "java/lang/String"), .int, .int, (.object "java/lang/String")]
  staticTypes := #[(.object "com/example/object_access_rules/objectaccessrules/Decision"), (.object "com/example/object_access_rules/objectaccessrules/Decision"), (.object "com/example/object_access_rules/objectaccessrules/Decision"), (.object "com/example/object_access_rules/objectaccessrules/Decision"), (.array (.object "com/example/object_access_rules/objectaccessrules/Decision"))]
  resolved := Array.replicate 71 none
  statics := some 0 }

def pool7 : Array CpInfo := pool [(1, .class_ 2), (0, u "com/example/object_access_rules/objectaccessrules/StatusCode"), (2, u "OK"), (0, u "Lcom/example/object_access_rules/objectaccessrules/StatusCode;"), (2, u "MISSING_ATTRIBUTE"), (2, u "PROCESSING_ERROR"), (2, u "SYNTAX_ERROR"), (2, u "$VALUES"), (0, u "[Lcom/example/object_access_rules/objectaccessrules/StatusCode;"), (6, .class_ 28), (1, u "java/lang/Enum"), (8, u "id"), (0, u "Ljava/lang/String;")] 32

/-- com/example/object_access_rules/objectaccessrules/StatusCode -/
def k7 : Class := { plain "com/example/object_access_rules/objectaccessrules/StatusCode" (some 5) with
  accessFlags := 16433
  interfaces := #[]
  cf := some (fileOf pool7 1 #[] #[] 16433 26 #[] #[{ accessFlags := 16409, nameIndex := 5, descriptorIndex := 6, attributes := #[] }, { accessFlags := 16409, nameIndex := 9, descriptorIndex := 6, attributes := #[] }, { accessFlags := 16409, nameIndex := 12, descriptorIndex := 6, attributes := #[] }, { accessFlags := 16409, nameIndex := 15, descriptorIndex := 6, attributes := #[] }, { accessFlags := 18, nameIndex := 37, descriptorIndex := 38, attributes := #[] }, { accessFlags := 4122, nameIndex := 18, descriptorIndex := 19, attributes := #[] }])
  fields := #[{ name := "OK", type := (.object "com/example/object_access_rules/objectaccessrules/StatusCode"), accessFlags := 16409, slot := 0, constantValue := 0 }, { name := "MISSING_ATTRIBUTE", type := (.object "com/example/object_access_rules/objectaccessrules/StatusCode"), accessFlags := 16409, slot := 1, constantValue := 0 }, { name := "PROCESSING_ERROR", type := (.object "com/example/object_access_rules/objectaccessrules/StatusCode"), accessFlags := 16409, slot := 2, constantValue := 0 }, { name := "SYNTAX_ERROR", type := (.object "com/example/object_access_rules/objectaccessrules/StatusCode"), accessFlags := 16409, slot := 3, constantValue := 0 }, { name := "id", type := (.object "java/lang/String"), accessFlags := 18, slot := 3, constantValue := 0 }, { name := "$VALUES", type := (.array (.object "com/example/object_access_rules/objectaccessrules/StatusCode")), accessFlags := 4122, slot := 4, constantValue := 0 }]
  methods := #[]
  instanceTypes := #[(.object "java/lang/String"), .int, .int, (.object "java/lang/String")]
  staticTypes := #[(.object "com/example/object_access_rules/objectaccessrules/StatusCode"), (.object "com/example/object_access_rules/objectaccessrules/StatusCode"), (.object "com/example/object_access_rules/objectaccessrules/StatusCode"), (.object "com/example/object_access_rules/objectaccessrules/StatusCode"), (.array (.object "com/example/object_access_rules/objectaccessrules/StatusCode"))]
  resolved := Array.replicate 71 none
  statics := some 1 }

def pool8 : Array CpInfo := pool [(2, .class_ 4), (1, u "java/lang/CharSequence"), (42, .class_ 48), (0, u "java/lang/CharSequence$1CodePointIterator"), (10, .class_ 60), (0, u "java/lang/CharSequence$1CharIterator"), (5, .class_ 67), (0, u "java/lang/Object")] 63

/-- java/lang/CharSequence -/
def k8 : Class := { plain "java/lang/CharSequence" (some 0) with
  accessFlags := 1537
  interfaces := #[]
  cf := some (fileOf pool8 2 #[.nestMembers #[47, 59]] #[] 1537 66 #[] #[])
  fields := #[]
  methods := #[]
  instanceTypes := #[]
  staticTypes := #[]
  resolved := Array.replicate 131 none
  statics := none }

def pool9 : Array CpInfo := pool [(1, .class_ 2), (0, u "java/lang/constant/ConstantDesc"), (0, .class_ 4), (0, u "java/lang/Object")] 32

/-- java/lang/constant/ConstantDesc -/
def k9 : Class := { plain "java/lang/constant/ConstantDesc" (some 0) with
  accessFlags := 1537
  interfaces := #[]
  cf := some (fileOf pool9 1 #[] #[] 1537 3 #[] #[])
  fields := #[]
  methods := #[]
  instanceTypes := #[]
  staticTypes := #[]
  resolved := Array.replicate 37 none
  statics := none }

def pool10 : Array CpInfo := pool [(1, .methodref 2 3), (0, .class_ 4), (0, .nameAndType 5 6), (0, u "java/lang/Object"), (0, u "<init>"), (0, u "()V"), (2, .fieldref 10 11), (0, .class_ 12), (0, .nameAndType 13 14), (0, u "java/lang/String"), (0, u "value"), (0, u "[B"), (0, .fieldref 10 16), (0, .nameAndType 17 18), (0, u "coder"), (0, u "B"), (2, u "hash"), (0, u "I"), (2, u "hashIsZero"), (0, u "Z"), (0, .methodref 10 28), (0, .nameAndType 5 29), (0, u "([CIILjava/lang/Void;)V"), (8, .fieldref 10 39), (0, .nameAndType 40 26), (0, u "COMPACT_STRINGS"), (1, .class_ 44), (1, u "java/lang/StringUTF16"), (0, u "compress"), (1, .methodref 42 48), (0, .nameAndType 49 50), (0, u "coderFromArrayLen"), (0, u "([BI)B"), (2, u "toBytes"), (53, .class_ 109), (1, u "java/lang/StringLatin1"), (32, u "()Z"), (34, .methodref 42 178), (0, .nameAndType 45 179), (0, u "([CII)[B"), (29, .methodref 10 210), (0, .nameAndType 5 211), (0, u "([BB)V"), (157, u "(C)Z"), (205, .class_ 576), (0, u "java/lang/CharSequence"), (22, u "CASE_INSENSITIVE_ORDER"), (0, u "Ljava/util/Comparator;"), (91, u "isEmpty"), (89, u "valueOf"), (0, u "(C)Ljava/lang/String;"), (226, u "([C)V"), (4, .methodref 107 1016), (0, .nameAndType 1017 369), (0, u "canEncode"), (0, .methodref 107 1019), (0, .nameAndType 53 1020), (0, u "(C)[B"), (80, u "serialPersistentFields"), (0, u "[Ljava/io/ObjectStreamField;"), (0, .class_ 1104), (0, u "java/lang/String$CaseInsensitiveComparator"), (1, .class_ 1107), (0, u "java/io/Serializable"), (0, .class_ 1109), (0, u "java/lang/Comparable"), (0, .class_ 1111), (0, u "java/lang/constant/Constable"), (0, .class_ 1113), (0, u "java/lang/constant/ConstantDesc"), (2, u "serialVersionUID"), (0, u "J"), (3, u "REPL"), (0, u "C"), (2, u "LATIN1"), (1, u "UTF16")] 323

def k10m0 : Method := { name := "<init>", desc := "()V", sig := { parameters := [], returnType := none }, accessFlags := 1, code := none }
def k10c1 : Code := { maxStack := 5, maxLocals := 2, code := jdk_42_method_3_code, exceptionTable := #[], attributes := #[] }
def k10m1 : Method := { name := "<init>", desc := "([C)V", sig := { parameters := [(.array .char)], returnType := none }, accessFlags := 1, code := some k10c1 }
def k10c2 : Code := { maxStack := 1, maxLocals := 1, code := jdk_42_method_55_code, exceptionTable := #[], attributes := #[] }
def k10m2 : Method := { name := "isEmpty", desc := "()Z", sig := { parameters := [], returnType := some .boolean }, accessFlags := 1, code := some k10c2 }
def k10c3 : Code := { maxStack := 4, maxLocals := 1, code := jdk_42_method_139_code, exceptionTable := #[], attributes := #[] }
def k10m3 : Method := { name := "valueOf", desc := "(C)Ljava/lang/String;", sig := { parameters := [.char], returnType := some (.object "java/lang/String") }, accessFlags := 9, code := some k10c3 }
def k10c4 : Code := { maxStack := 4, maxLocals := 6, code := jdk_42_method_149_code, exceptionTable := #[], attributes := #[] }
def k10m4 : Method := { name := "<init>", desc := "([CIILjava/lang/Void;)V", sig := { parameters := [(.array .char), .int, .int, (.object "java/lang/Void")], returnType := none }, accessFlags := 2, code := some k10c4 }
def k10c5 : Code := { maxStack := 2, maxLocals := 3, code := jdk_42_method_151_code, exceptionTable := #[], attributes := #[] }
def k10m5 : Method := { name := "<init>", desc := "([BB)V", sig := { parameters := [(.array .byte), .byte], returnType := none }, accessFlags := 0, code := some k10c5 }
/-- java/lang/String -/
def k10 : Class := { plain "java/lang/String" (some 0) with
  accessFlags := 49
  interfaces := #[4, 3, 8, 2, 9]
  cf := some (fileOf pool10 10 #[.nestMembers #[1103]] #[{ accessFlags := 1, nameIndex := 5, descriptorIndex := 6, attributes := #[] }, { accessFlags := 1, nameIndex := 5, descriptorIndex := 1010, attributes := #[] }, { accessFlags := 1, nameIndex := 692, descriptorIndex := 142, attributes := #[] }, { accessFlags := 9, nameIndex := 782, descriptorIndex := 783, attributes := #[] }, { accessFlags := 2, nameIndex := 5, descriptorIndex := 29, attributes := #[] }, { accessFlags := 0, nameIndex := 5, descriptorIndex := 211, attributes := #[] }] 49 2 #[1106, 1108, 575, 1110, 1112] #[{ accessFlags := 18, nameIndex := 13, descriptorIndex := 14, attributes := #[] }, { accessFlags := 18, nameIndex := 17, descriptorIndex := 18, attributes := #[] }, { accessFlags := 2, nameIndex := 21, descriptorIndex := 22, attributes := #[] }, { accessFlags := 2, nameIndex := 25, descriptorIndex := 26, attributes := #[] }, { accessFlags := 26, nameIndex := 1116, descriptorIndex := 1117, attributes := #[] }, { accessFlags := 24, nameIndex := 40, descriptorIndex := 26, attributes := #[] }, { accessFlags := 26, nameIndex := 1101, descriptorIndex := 1102, attributes := #[] }, { accessFlags := 26, nameIndex := 1121, descriptorIndex := 1122, attributes := #[] }, { accessFlags := 25, nameIndex := 599, descriptorIndex := 600, attributes := #[] }, { accessFlags := 24, nameIndex := 1125, descriptorIndex := 18, attributes := #[] }, { accessFlags := 24, nameIndex := 1127, descriptorIndex := 18, attributes := #[] }])
  fields := #[{ name := "value", type := (.array .byte), accessFlags := 18, slot := 0, constantValue := 0 }, { name := "coder", type := .byte, accessFlags := 18, slot := 1, constantValue := 0 }, { name := "hash", type := .int, accessFlags := 2, slot := 2, constantValue := 0 }, { name := "hashIsZero", type := .boolean, accessFlags := 2, slot := 3, constantValue := 0 }, { name := "serialVersionUID", type := .long, accessFlags := 26, slot := 0, constantValue := 0 }, { name := "COMPACT_STRINGS", type := .boolean, accessFlags := 24, slot := 1, constantValue := 0 }, { name := "serialPersistentFields", type := (.array (.object "java/io/ObjectStreamField")), accessFlags := 26, slot := 2, constantValue := 0 }, { name := "REPL", type := .char, accessFlags := 26, slot := 3, constantValue := 0 }, { name := "CASE_INSENSITIVE_ORDER", type := (.object "java/util/Comparator"), accessFlags := 25, slot := 4, constantValue := 0 }, { name := "LATIN1", type := .byte, accessFlags := 24, slot := 5, constantValue := 0 }, { name := "UTF16", type := .byte, accessFlags := 24, slot := 6, constantValue := 0 }]
  methods := #[k10m0, k10m1, k10m2, k10m3, k10m4, k10m5]
  instanceTypes := #[(.array .byte), .byte, .int, .boolean]
  staticTypes := #[.long, .boolean, (.array (.object "java/io/ObjectStreamField")), .char, (.object "java/util/Comparator"), .byte, .byte]
  resolved := Array.replicate 1451 none
  statics := some 2 }

def pool11 : Array CpInfo := pool [(1, .methodref 2 3), (0, .class_ 4), (0, .nameAndType 5 6), (0, u "com/example/object_access_rules/objectaccessrules/Result"), (0, u "<init>"), (0, u "(Lcom/example/object_access_rules/objectaccessrules/Decision;Lcom/example/object_access_rules/objectaccessrules/StatusCode;Ljava/lang/String;Ljava/lang/String;Lcom/example/object_access_rules/objectaccessrules/Result;)V"), (0, .string 8), (0, u ""), (2, u "(Lcom/example/object_access_rules/objectaccessrules/Decision;Lcom/example/object_access_rules/objectaccessrules/StatusCode;Ljava/lang/String;)V"), (0, .methodref 13 14), (0, .class_ 15), (0, .nameAndType 5 16), (0, u "java/lang/Object"), (0, u "()V"), (0, .string 18), (0, u "decision"), (0, .methodref 20 21), (0, .class_ 22), (0, .nameAndType 23 24), (0, u "java/util/Objects"), (0, u "requireNonNull"), (0, u "(Ljava/lang/Object;Ljava/lang/String;)Ljava/lang/Object;"), (0, .class_ 26), (0, u "com/example/object_access_rules/objectaccessrules/Decision"), (0, .fieldref 2 28), (0, .nameAndType 18 29), (0, u "Lcom/example/object_access_rules/objectaccessrules/Decision;"), (0, .string 31), (0, u "status"), (0, .class_ 33), (0, u "com/example/object_access_rules/objectaccessrules/StatusCode"), (0, .fieldref 2 35), (0, .nameAndType 31 36), (0, u "Lcom/example/object_access_rules/objectaccessrules/StatusCode;"), (0, .string 38), (0, u "message"), (0, .class_ 40), (0, u "java/lang/String"), (0, .fieldref 2 42), (0, .nameAndType 38 43), (0, u "Ljava/lang/String;"), (0, .fieldref 25 45), (0, .nameAndType 46 29), (0, u "INDETERMINATE"), (0, .fieldref 32 48), (0, .nameAndType 49 36), (0, u "OK"), (16, .methodref 39 67), (0, .nameAndType 68 69), (0, u "isEmpty"), (0, u "()Z"), (1, .fieldref 2 72), (0, .nameAndType 73 43), (0, u "step"), (0, .fieldref 2 75), (0, .nameAndType 76 77), (0, u "below"), (0, u "Lcom/example/object_access_rules/objectaccessrules/Result;"), (1, .class_ 81), (1, u "com/example/object_access_rules/objectaccessrules/Result$1"), (13, u "PERMIT"), (2, u "DENY"), (2, u "NOT_APPLICABLE"), (33, .fieldref 25 136), (0, .nameAndType 101 29), (0, .fieldref 25 138), (0, .nameAndType 98 29), (47, u "origin"), (0, u "()Lcom/example/object_access_rules/objectaccessrules/Result;"), (0, u "through"), (0, u "(Ljava/lang/String;)Lcom/example/object_access_rules/objectaccessrules/Result;"), (0, u "asDeny")] 26

def k11c0 : Code := { maxStack := 6, maxLocals := 4, code := prog_37_method_1_code, exceptionTable := #[], attributes := #[] }
def k11m0 : Method := { name := "<init>", desc := "(Lcom/example/object_access_rules/objectaccessrules/Decision;Lcom/example/object_access_rules/objectaccessrules/StatusCode;Ljava/lang/String;)V", sig := { parameters := [(.object "com/example/object_access_rules/objectaccessrules/Decision"), (.object "com/example/object_access_rules/objectaccessrules/StatusCode"), (.object "java/lang/String")], returnType := none }, accessFlags := 1, code := some k11c0 }
def k11c1 : Code := { maxStack := 4, maxLocals := 6, code := prog_37_method_3_code, exceptionTable := #[], attributes := #[] }
def k11m1 : Method := { name := "<init>", desc := "(Lcom/example/object_access_rules/objectaccessrules/Decision;Lcom/example/object_access_rules/objectaccessrules/StatusCode;Ljava/lang/String;Ljava/lang/String;Lcom/example/object_access_rules/objectaccessrules/Result;)V", sig := { parameters := [(.object "com/example/object_access_rules/objectaccessrules/Decision"), (.object "com/example/object_access_rules/objectaccessrules/StatusCode"), (.object "java/lang/String"), (.object "java/lang/String"), (.object "com/example/object_access_rules/objectaccessrules/Result")], returnType := none }, accessFlags := 2, code := some k11c1 }
def k11c2 : Code := { maxStack := 1, maxLocals := 2, code := prog_37_method_12_code, exceptionTable := #[], attributes := #[] }
def k11m2 : Method := { name := "origin", desc := "()Lcom/example/object_access_rules/objectaccessrules/Result;", sig := { parameters := [], returnType := some (.object "com/example/object_access_rules/objectaccessrules/Result") }, accessFlags := 1, code := some k11c2 }
def k11c3 : Code := { maxStack := 7, maxLocals := 2, code := prog_37_method_13_code, exceptionTable := #[], attributes := #[] }
def k11m3 : Method := { name := "through", desc := "(Ljava/lang/String;)Lcom/example/object_access_rules/objectaccessrules/Result;", sig := { parameters := [(.object "java/lang/String")], returnType := some (.object "com/example/object_access_rules/objectaccessrules/Result") }, accessFlags := 0, code := some k11c3 }
def k11c4 : Code := { maxStack := 7, maxLocals := 1, code := prog_37_method_14_code, exceptionTable := #[], attributes := #[] }
def k11m4 : Method := { name := "asDeny", desc := "()Lcom/example/object_access_rules/objectaccessrules/Result;", sig := { parameters := [], returnType := some (.object "com/example/object_access_rules/objectaccessrules/Result") }, accessFlags := 0, code := some k11c4 }
/-- com/example/object_access_rules/objectaccessrules/Result -/
def k11 : Class := { plain "com/example/object_access_rules/objectaccessrules/Result" (some 0) with
  accessFlags := 33
  interfaces := #[]
  cf := some (fileOf pool11 2 #[.nestMembers #[79]] #[{ accessFlags := 1, nameIndex := 5, descriptorIndex := 11, attributes := #[] }, { accessFlags := 2, nameIndex := 5, descriptorIndex := 6, attributes := #[] }, { accessFlags := 1, nameIndex := 186, descriptorIndex := 187, attributes := #[] }, { accessFlags := 0, nameIndex := 188, descriptorIndex := 189, attributes := #[] }, { accessFlags := 0, nameIndex := 190, descriptorIndex := 187, attributes := #[] }] 33 13 #[] #[{ accessFlags := 26, nameIndex := 95, descriptorIndex := 77, attributes := #[] }, { accessFlags := 26, nameIndex := 98, descriptorIndex := 77, attributes := #[] }, { accessFlags := 26, nameIndex := 101, descriptorIndex := 77, attributes := #[] }, { accessFlags := 18, nameIndex := 18, descriptorIndex := 29, attributes := #[] }, { accessFlags := 18, nameIndex := 31, descriptorIndex := 36, attributes := #[] }, { accessFlags := 18, nameIndex := 38, descriptorIndex := 43, attributes := #[] }, { accessFlags := 18, nameIndex := 73, descriptorIndex := 43, attributes := #[] }, { accessFlags := 18, nameIndex := 76, descriptorIndex := 77, attributes := #[] }])
  fields := #[{ name := "PERMIT", type := (.object "com/example/object_access_rules/objectaccessrules/Result"), accessFlags := 26, slot := 0, constantValue := 0 }, { name := "DENY", type := (.object "com/example/object_access_rules/objectaccessrules/Result"), accessFlags := 26, slot := 1, constantValue := 0 }, { name := "NOT_APPLICABLE", type := (.object "com/example/object_access_rules/objectaccessrules/Result"), accessFlags := 26, slot := 2, constantValue := 0 }, { name := "decision", type := (.object "com/example/object_access_rules/objectaccessrules/Decision"), accessFlags := 18, slot := 0, constantValue := 0 }, { name := "status", type := (.object "com/example/object_access_rules/objectaccessrules/StatusCode"), accessFlags := 18, slot := 1, constantValue := 0 }, { name := "message", type := (.object "java/lang/String"), accessFlags := 18, slot := 2, constantValue := 0 }, { name := "step", type := (.object "java/lang/String"), accessFlags := 18, slot := 3, constantValue := 0 }, { name := "below", type := (.object "com/example/object_access_rules/objectaccessrules/Result"), accessFlags := 18, slot := 4, constantValue := 0 }]
  methods := #[k11m0, k11m1, k11m2, k11m3, k11m4]
  instanceTypes := #[(.object "com/example/object_access_rules/objectaccessrules/Decision"), (.object "com/example/object_access_rules/objectaccessrules/StatusCode"), (.object "java/lang/String"), (.object "java/lang/String"), (.object "com/example/object_access_rules/objectaccessrules/Result")]
  staticTypes := #[(.object "com/example/object_access_rules/objectaccessrules/Result"), (.object "com/example/object_access_rules/objectaccessrules/Result"), (.object "com/example/object_access_rules/objectaccessrules/Result")]
  resolved := Array.replicate 217 none
  statics := none }

def pool12 : Array CpInfo := pool [(2, .class_ 4), (1, u "java/lang/Object"), (0, u "<init>"), (0, u "()V"), (35, .class_ 44), (1, u "java/util/Objects"), (0, u "requireNonNull"), (48, u "(Ljava/lang/Object;Ljava/lang/String;)Ljava/lang/Object;")] 89

def k12m0 : Method := { name := "<init>", desc := "()V", sig := { parameters := [], returnType := none }, accessFlags := 2, code := none }
def k12c1 : Code := { maxStack := 3, maxLocals := 2, code := jdk_31_method_11_code, exceptionTable := #[], attributes := #[] }
def k12m1 : Method := { name := "requireNonNull", desc := "(Ljava/lang/Object;Ljava/lang/String;)Ljava/lang/Object;", sig := { parameters := [(.object "java/lang/Object"), (.object "java/lang/String")], returnType := some (.object "java/lang/Object") }, accessFlags := 9, code := some k12c1 }
/-- java/util/Objects -/
def k12 : Class := { plain "java/util/Objects" (some 0) with
  accessFlags := 49
  interfaces := #[]
  cf := some (fileOf pool12 42 #[] #[{ accessFlags := 2, nameIndex := 5, descriptorIndex := 6, attributes := #[] }, { accessFlags := 9, nameIndex := 45, descriptorIndex := 94, attributes := #[] }] 49 2 #[] #[])
  fields := #[]
  methods := #[k12m0, k12m1]
  instanceTypes := #[]
  staticTypes := #[]
  resolved := Array.replicate 184 none
  statics := none }

def pool13 : Array CpInfo := pool [(4, .class_ 6), (1, u "java/lang/Object"), (0, u "<init>"), (0, u "()V"), (5, .class_ 16), (1, u "java/lang/StringLatin1"), (73, u "canEncode"), (14, u "(C)Z"), (15, u "$assertionsDisabled"), (0, u "Z"), (98, .class_ 223), (1, u "java/lang/StringLatin1$LinesSpliterator"), (156, u "toBytes"), (1, u "(C)[B"), (7, .class_ 391), (0, u "java/lang/StringLatin1$CharsSpliterator")] 3

def k13m0 : Method := { name := "<init>", desc := "()V", sig := { parameters := [], returnType := none }, accessFlags := 0, code := none }
def k13c1 : Code := { maxStack := 2, maxLocals := 1, code := jdk_43_method_3_code, exceptionTable := #[], attributes := #[] }
def k13m1 : Method := { name := "canEncode", desc := "(C)Z", sig := { parameters := [.char], returnType := some .boolean }, accessFlags := 9, code := some k13c1 }
def k13c2 : Code := { maxStack := 4, maxLocals := 1, code := jdk_43_method_46_code, exceptionTable := #[], attributes := #[] }
def k13m2 : Method := { name := "toBytes", desc := "(C)[B", sig := { parameters := [.char], returnType := some (.array .byte) }, accessFlags := 9, code := some k13c2 }
/-- java/lang/StringLatin1 -/
def k13 : Class := { plain "java/lang/StringLatin1" (some 0) with
  accessFlags := 48
  interfaces := #[]
  cf := some (fileOf pool13 14 #[.nestMembers #[390, 221]] #[{ accessFlags := 0, nameIndex := 7, descriptorIndex := 8, attributes := #[] }, { accessFlags := 9, nameIndex := 90, descriptorIndex := 105, attributes := #[] }, { accessFlags := 9, nameIndex := 380, descriptorIndex := 382, attributes := #[] }] 48 4 #[] #[{ accessFlags := 4120, nameIndex := 121, descriptorIndex := 122, attributes := #[] }])
  fields := #[{ name := "$assertionsDisabled", type := .boolean, accessFlags := 4120, slot := 0, constantValue := 0 }]
  methods := #[k13m0, k13m1, k13m2]
  instanceTypes := #[]
  staticTypes := #[.boolean]
  resolved := Array.replicate 395 none
  statics := none }

def pool14 : Array CpInfo := pool [(6, .class_ 8), (1, u "java/lang/Object"), (0, u "<init>"), (0, u "()V"), (1, .class_ 14), (1, u "java/lang/StringUTF16"), (31, u "$assertionsDisabled"), (0, u "Z"), (13, u "HI_BYTE_SHIFT"), (0, u "I"), (2, u "LO_BYTE_SHIFT"), (49, .methodref 12 116), (0, .nameAndType 117 118), (0, u "compress"), (0, u "([CI[BII)I"), (3, u "([CII)[B"), (138, u "coderFromArrayLen"), (0, u "([BI)B"), (106, .class_ 371), (1, u "java/lang/StringUTF16$LinesSpliterator"), (58, u "MAX_LENGTH"), (196, .class_ 628), (0, u "java/lang/StringUTF16$CodePointsSpliterator"), (0, .class_ 630), (0, u "java/lang/StringUTF16$CharsSpliterator")] 4

def k14m0 : Method := { name := "<init>", desc := "()V", sig := { parameters := [], returnType := none }, accessFlags := 0, code := none }
def k14c1 : Code := { maxStack := 2, maxLocals := 2, code := jdk_52_method_15_code, exceptionTable := #[], attributes := #[] }
def k14m1 : Method := { name := "coderFromArrayLen", desc := "([BI)B", sig := { parameters := [(.array .byte), .int], returnType := some .byte }, accessFlags := 8, code := some k14c1 }
def k14c2 : Code := { maxStack := 5, maxLocals := 6, code := jdk_52_method_16_code, exceptionTable := #[], attributes := #[] }
def k14m2 : Method := { name := "compress", desc := "([CII)[B", sig := { parameters := [(.array .char), .int, .int], returnType := some (.array .byte) }, accessFlags := 9, code := some k14c2 }
def k14c3 : Code := { maxStack := 3, maxLocals := 7, code := jdk_52_method_21_code, exceptionTable := #[], attributes := #[] }
def k14m3 : Method := { name := "compress", desc := "([CI[BII)I", sig := { parameters := [(.array .char), .int, (.array .byte), .int, .int], returnType := some .int }, accessFlags := 9, code := some k14c3 }
/-- java/lang/StringUTF16 -/
def k14 : Class := { plain "java/lang/StringUTF16" (some 0) with
  accessFlags := 48
  interfaces := #[]
  cf := some (fileOf pool14 12 #[.nestMembers #[627, 629, 369]] #[{ accessFlags := 0, nameIndex := 9, descriptorIndex := 10, attributes := #[] }, { accessFlags := 8, nameIndex := 261, descriptorIndex := 262, attributes := #[] }, { accessFlags := 9, nameIndex := 117, descriptorIndex := 122, attributes := #[] }, { accessFlags := 9, nameIndex := 117, descriptorIndex := 118, attributes := #[] }] 48 6 #[] #[{ accessFlags := 26, nameIndex := 61, descriptorIndex := 62, attributes := #[] }, { accessFlags := 26, nameIndex := 65, descriptorIndex := 62, attributes := #[] }, { accessFlags := 24, nameIndex := 430, descriptorIndex := 62, attributes := #[] }, { accessFlags := 4120, nameIndex := 46, descriptorIndex := 47, attributes := #[] }])
  fields := #[{ name := "HI_BYTE_SHIFT", type := .int, accessFlags := 26, slot := 0, constantValue := 0 }, { name := "LO_BYTE_SHIFT", type := .int, accessFlags := 26, slot := 1, constantValue := 0 }, { name := "MAX_LENGTH", type := .int, accessFlags := 24, slot := 2, constantValue := 0 }, { name := "$assertionsDisabled", type := .boolean, accessFlags := 4120, slot := 3, constantValue := 0 }]
  methods := #[k14m0, k14m1, k14m2, k14m3]
  instanceTypes := #[]
  staticTypes := #[.int, .int, .int, .boolean]
  resolved := Array.replicate 635 none
  statics := none }

def pool15 : Array CpInfo := pool [(2, .class_ 4), (1, u "java/lang/Object"), (0, u "<init>"), (0, u "()V"), (17, .class_ 26), (1, u "jdk/internal/util/Preconditions"), (28, .class_ 56), (0, u "jdk/internal/util/Preconditions$4"), (57, .class_ 115), (0, u "jdk/internal/util/Preconditions$1"), (7, u "SIOOBE_FORMATTER"), (0, u "Ljava/util/function/BiFunction;"), (0, .class_ 126), (0, u "jdk/internal/util/Preconditions$2"), (3, u "AIOOBE_FORMATTER"), (0, .class_ 132), (0, u "jdk/internal/util/Preconditions$3"), (3, u "IOOBE_FORMATTER")] 57

def k15m0 : Method := { name := "<init>", desc := "()V", sig := { parameters := [], returnType := none }, accessFlags := 1, code := none }
/-- jdk/internal/util/Preconditions -/
def k15 : Class := { plain "jdk/internal/util/Preconditions" (some 0) with
  accessFlags := 33
  interfaces := #[]
  cf := some (fileOf pool15 24 #[.nestMembers #[55, 131, 125, 114]] #[{ accessFlags := 1, nameIndex := 5, descriptorIndex := 6, attributes := #[] }] 33 2 #[] #[{ accessFlags := 25, nameIndex := 123, descriptorIndex := 124, attributes := #[] }, { accessFlags := 25, nameIndex := 130, descriptorIndex := 124, attributes := #[] }, { accessFlags := 25, nameIndex := 136, descriptorIndex := 124, attributes := #[] }])
  fields := #[{ name := "SIOOBE_FORMATTER", type := (.object "java/util/function/BiFunction"), accessFlags := 25, slot := 0, constantValue := 0 }, { name := "AIOOBE_FORMATTER", type := (.object "java/util/function/BiFunction"), accessFlags := 25, slot := 1, constantValue := 0 }, { name := "IOOBE_FORMATTER", type := (.object "java/util/function/BiFunction"), accessFlags := 25, slot := 2, constantValue := 0 }]
  methods := #[k15m0]
  instanceTypes := #[]
  staticTypes := #[(.object "java/util/function/BiFunction"), (.object "java/util/function/BiFunction"), (.object "java/util/function/BiFunction")]
  resolved := Array.replicate 194 none
  statics := some 3 }

def pool16 : Array CpInfo := pool [(9, u "<init>"), (6, .class_ 18), (1, u "java/lang/Object"), (0, u "()V"), (1, .class_ 23), (1, u "jdk/internal/util/ArraysSupport"), (0, u "LOG2_ARRAY_LONG_INDEX_SCALE"), (0, u "I"), (2, u "U"), (0, u "Ljdk/internal/misc/Unsafe;"), (8, u "BIG_ENDIAN"), (0, u "Z"), (8, u "LOG2_BYTE_BIT_SIZE"), (4, u "LOG2_ARRAY_INT_INDEX_SCALE"), (54, u "JLA"), (0, u "Ljdk/internal/access/JavaLangAccess;"), (11, u "LOG2_ARRAY_BOOLEAN_INDEX_SCALE"), (9, u "LOG2_ARRAY_BYTE_INDEX_SCALE"), (5, u "LOG2_ARRAY_CHAR_INDEX_SCALE"), (5, u "LOG2_ARRAY_SHORT_INDEX_SCALE"), (18, u "LOG2_ARRAY_FLOAT_INDEX_SCALE"), (24, u "LOG2_ARRAY_DOUBLE_INDEX_SCALE"), (89, u "T_BOOLEAN"), (2, u "T_CHAR"), (1, u "T_FLOAT"), (1, u "T_DOUBLE"), (1, u "T_BYTE"), (1, u "T_SHORT"), (1, u "T_INT"), (1, u "T_LONG"), (1, u "SOFT_MAX_ARRAY_LENGTH")] 83

def k16m0 : Method := { name := "<init>", desc := "()V", sig := { parameters := [], returnType := none }, accessFlags := 2, code := none }
/-- jdk/internal/util/ArraysSupport -/
def k16 : Class := { plain "jdk/internal/util/ArraysSupport" (some 0) with
  accessFlags := 33
  interfaces := #[]
  cf := some (fileOf pool16 21 #[] #[{ accessFlags := 2, nameIndex := 9, descriptorIndex := 19, attributes := #[] }] 33 16 #[] #[{ accessFlags := 24, nameIndex := 28, descriptorIndex := 29, attributes := #[] }, { accessFlags := 26, nameIndex := 38, descriptorIndex := 39, attributes := #[] }, { accessFlags := 25, nameIndex := 121, descriptorIndex := 25, attributes := #[] }, { accessFlags := 25, nameIndex := 131, descriptorIndex := 25, attributes := #[] }, { accessFlags := 25, nameIndex := 137, descriptorIndex := 25, attributes := #[] }, { accessFlags := 25, nameIndex := 143, descriptorIndex := 25, attributes := #[] }, { accessFlags := 25, nameIndex := 53, descriptorIndex := 25, attributes := #[] }, { accessFlags := 25, nameIndex := 24, descriptorIndex := 25, attributes := #[] }, { accessFlags := 25, nameIndex := 162, descriptorIndex := 25, attributes := #[] }, { accessFlags := 25, nameIndex := 187, descriptorIndex := 25, attributes := #[] }, { accessFlags := 26, nameIndex := 48, descriptorIndex := 25, attributes := #[] }, { accessFlags := 25, nameIndex := 277, descriptorIndex := 25, attributes := #[] }, { accessFlags := 25, nameIndex := 280, descriptorIndex := 25, attributes := #[] }, { accessFlags := 25, nameIndex := 282, descriptorIndex := 25, attributes := #[] }, { accessFlags := 25, nameIndex := 284, descriptorIndex := 25, attributes := #[] }, { accessFlags := 25, nameIndex := 286, descriptorIndex := 25, attributes := #[] }, { accessFlags := 25, nameIndex := 288, descriptorIndex := 25, attributes := #[] }, { accessFlags := 25, nameIndex := 290, descriptorIndex := 25, attributes := #[] }, { accessFlags := 25, nameIndex := 292, descriptorIndex := 25, attributes := #[] }, { accessFlags := 26, nameIndex := 108, descriptorIndex := 109, attributes := #[] }, { accessFlags := 25, nameIndex := 294, descriptorIndex := 25, attributes := #[] }])
  fields := #[{ name := "U", type := (.object "jdk/internal/misc/Unsafe"), accessFlags := 24, slot := 0, constantValue := 0 }, { name := "BIG_ENDIAN", type := .boolean, accessFlags := 26, slot := 1, constantValue := 0 }, { name := "LOG2_ARRAY_BOOLEAN_INDEX_SCALE", type := .int, accessFlags := 25, slot := 2, constantValue := 0 }, { name := "LOG2_ARRAY_BYTE_INDEX_SCALE", type := .int, accessFlags := 25, slot := 3, constantValue := 0 }, { name := "LOG2_ARRAY_CHAR_INDEX_SCALE", type := .int, accessFlags := 25, slot := 4, constantValue := 0 }, { name := "LOG2_ARRAY_SHORT_INDEX_SCALE", type := .int, accessFlags := 25, slot := 5, constantValue := 0 }, { name := "LOG2_ARRAY_INT_INDEX_SCALE", type := .int, accessFlags := 25, slot := 6, constantValue := 0 }, { name := "LOG2_ARRAY_LONG_INDEX_SCALE", type := .int, accessFlags := 25, slot := 7, constantValue := 0 }, { name := "LOG2_ARRAY_FLOAT_INDEX_SCALE", type := .int, accessFlags := 25, slot := 8, constantValue := 0 }, { name := "LOG2_ARRAY_DOUBLE_INDEX_SCALE", type := .int, accessFlags := 25, slot := 9, constantValue := 0 }, { name := "LOG2_BYTE_BIT_SIZE", type := .int, accessFlags := 26, slot := 10, constantValue := 0 }, { name := "T_BOOLEAN", type := .int, accessFlags := 25, slot := 11, constantValue := 0 }, { name := "T_CHAR", type := .int, accessFlags := 25, slot := 12, constantValue := 0 }, { name := "T_FLOAT", type := .int, accessFlags := 25, slot := 13, constantValue := 0 }, { name := "T_DOUBLE", type := .int, accessFlags := 25, slot := 14, constantValue := 0 }, { name := "T_BYTE", type := .int, accessFlags := 25, slot := 15, constantValue := 0 }, { name := "T_SHORT", type := .int, accessFlags := 25, slot := 16, constantValue := 0 }, { name := "T_INT", type := .int, accessFlags := 25, slot := 17, constantValue := 0 }, { name := "T_LONG", type := .int, accessFlags := 25, slot := 18, constantValue := 0 }, { name := "JLA", type := (.object "jdk/internal/access/JavaLangAccess"), accessFlags := 26, slot := 19, constantValue := 0 }, { name := "SOFT_MAX_ARRAY_LENGTH", type := .int, accessFlags := 25, slot := 20, constantValue := 0 }]
  methods := #[k16m0]
  instanceTypes := #[]
  staticTypes := #[(.object "jdk/internal/misc/Unsafe"), .boolean, .int, .int, .int, .int, .int, .int, .int, .int, .int, .int, .int, .int, .int, .int, .int, .int, .int, (.object "jdk/internal/access/JavaLangAccess"), .int]
  resolved := Array.replicate 378 none
  statics := none }

def pool17 : Array CpInfo := pool [(1, u "java/lang/Cloneable"), (0, .class_ 1), (0, u "java/lang/Object"), (0, .class_ 3)] 3

/-- java/lang/Cloneable -/
def k17 : Class := { plain "java/lang/Cloneable" (some 0) with
  accessFlags := 1537
  interfaces := #[]
  cf := some (fileOf pool17 2 #[] #[] 1537 4 #[] #[])
  fields := #[]
  methods := #[]
  instanceTypes := #[]
  staticTypes := #[]
  resolved := Array.replicate 8 none
  statics := none }

/-- the primitive byte -/
def k18 : Class := { plain "byte" none with kind := .primitive 'B', accessFlags := 0x411 }
/-- [B -/
def k19 : Class := { plain "[B" (some 0) with kind := .array 18 .byte, interfaces := #[17, 4], accessFlags := 1041 }

/-- the primitive char -/
def k20 : Class := { plain "char" none with kind := .primitive 'C', accessFlags := 0x411 }
/-- [C -/
def k21 : Class := { plain "[C" (some 0) with kind := .array 20 .char, interfaces := #[17, 4], accessFlags := 1041 }

/-- the primitive int -/
def k22 : Class := { plain "int" none with kind := .primitive 'I', accessFlags := 0x411 }
/-- [I -/
def k23 : Class := { plain "[I" (some 0) with kind := .array 22 .int, interfaces := #[17, 4], accessFlags := 1041 }

def heap : Heap := #[{ cls := 6, slots := #[.ref 4, .ref 8, .ref 7, .ref 5, .null], vm := .statics 6 },
  { cls := 7, slots := #[.ref 6, .ref 10, .ref 11, .ref 9, .null], vm := .statics 7 },
  { cls := 10, slots := #[.long 0, .int 1, .null, .int 0, .null, .int 0, .int 0], vm := .statics 10 },
  { cls := 15, slots := #[.null, .null, .null], vm := .statics 15 },
  { cls := 6, slots := #[.null, .int 0, .int 0, .null], vm := .none },
  { cls := 6, slots := #[.null, .int 3, .int 0, .null], vm := .none },
  { cls := 7, slots := #[.null, .int 0, .int 0, .null], vm := .none },
  { cls := 6, slots := #[.null, .int 2, .int 0, .null], vm := .none },
  { cls := 6, slots := #[.null, .int 1, .int 0, .null], vm := .none },
  { cls := 7, slots := #[.null, .int 3, .int 0, .null], vm := .none },
  { cls := 7, slots := #[.null, .int 1, .int 0, .null], vm := .none },
  { cls := 7, slots := #[.null, .int 2, .int 0, .null], vm := .none }]
def classes : Array Class := #[k0, k1, k2, k3, k4, k5, k6, k7, k8, k9, k10, k11, k12, k13, k14, k15, k16, k17, k18, k19, k20, k21, k22, k23]
def interned : List (Array UInt16 × Addr) := []
def slotsUsed : Nat := 52
def theMethod : MethodId := ⟨1, 1⟩
def args0 : Array Value := #[.int 2, .int 3, .int 4, .int 5, .int 6, .int 7]
def aboutOver (below : List Frame) : State where
  vm := { classes := classes, interned := interned.toArray }
  heap := heap
  slotsUsed := slotsUsed
  threads := #[{ frames := .invoking theMethod args0 :: below }]
def below0 : List Frame := [.native { method := ⟨0, 0⟩, args := #[] }]
def about1 : State := aboutOver below0
def p0 : Program := .bare "" "" ""
def e0 : Env := launch0.env 0 0 0
theorem w_frames : about1.frames = Frame.invoking theMethod args0 :: below0 := rfl
set_option maxRecDepth 65536 in
theorem w_args : argsFit about1.vm theMethod args0 = true := by decide +kernel
set_option maxRecDepth 65536 in
theorem w_heap : heapFits about1 = true := by decide +kernel
set_option maxRecDepth 65536 in
theorem w_runnable : about1.curStatus? = some .runnable := by decide +kernel
set_option maxRecDepth 65536 in
theorem w_alone : about1.alone = true := by decide +kernel
set_option maxRecDepth 65536 in
theorem w_named : about1.methodNamed? x = some theMethod := by decide +kernel
set_option maxRecDepth 65536 in
theorem w_hears : about1.hears theMethod below0 = true := by decide +kernel
set_option maxRecDepth 65536 in
theorem w_ripe : about1.ripe theMethod args0 below0 = true := by decide +kernel
theorem w_running : about1.status = .running := rfl
set_option maxRecDepth 65536 in
theorem w_room : about1.hasRoom e0.platform room_1 = true :=
  launch0.hasRoom_least _ room_1 (by decide +kernel) (by decide +kernel) (by decide +kernel) (by decide +kernel) (by decide +kernel) (by decide +kernel)
theorem allAtoms_all (ts : List Jvm.Cond) (a : Array Jvm.Value) (st : Jvm.State) : (allAtoms ts).before a st = ts.all (fun c => c.before a st) := by
  induction ts with
  | nil => rfl
  | cons c t ih =>
    show (Jvm.Cond.and c (allAtoms t)).before a st = _
    rw [Jvm.Cond.before_and, ih, List.all_cons]
def words1 : List Jvm.Cond := Jvm.Cond.code x code maxLocals ret :: tables_1
/-- a 'code' word, met by the world's own term for the bytes: nothing is compared byte by byte -/
theorem code_word {y : MethodName} {bytes : ByteArray} {mx : Nat} {rt : Option FieldType} {a : Array Value} {s : State} {m : MethodId} {meth : Method} {c : Code} (h1 : s.methodNamed? y = some m) (h2 : s.vm.method? m = some meth) (h3 : meth.code = some c) (h4 : c.code = bytes)
    (h5 : (c.maxLocals == mx && c.exceptionTable.isEmpty && decide (c.maxStack ≤ mostOperands) && decide (meth.sig.returnType = rt) && !meth.locks && decide (parseMethodDescriptor y.desc = some meth.sig)) = true) : (Jvm.Cond.code y bytes mx rt).before a s = true := by
  simp only [Bool.and_eq_true, beq_iff_eq, Bool.not_eq_true', decide_eq_true_eq] at h5
  obtain ⟨⟨⟨⟨⟨g1, g2⟩, g3⟩, g4⟩, g5⟩, g6⟩ := h5
  simp [Cond.before, Cond.holds, Cond.value, h1, h2, h3, h4, g1, g2, g3, g4, g5, g6]
def isCode : Jvm.Cond → Bool
  | .code _ _ _ _ => true
  | _ => false
theorem all_split {L : List Jvm.Cond} {P : Jvm.Cond → Bool} (h1 : L.all (fun c => isCode c || P c) = true) (h2 : ∀ c ∈ L.filter isCode, P c = true) : L.all P = true := by
  refine List.all_eq_true.mpr fun c hc => ?_
  have h := List.all_eq_true.mp h1 c hc
  rcases Bool.eq_false_or_eq_true (isCode c) with hi | hi
  · exact h2 c (List.mem_filter.mpr ⟨hc, hi⟩)
  · simpa [hi] using h
set_option maxRecDepth 65536 in
theorem w_c0 : (Jvm.Cond.code x code maxLocals ret).before args0 about1 = true := code_word (m := ⟨1, 1⟩) (meth := k1m1) (c := k1c1) (by decide +kernel) rfl rfl rfl (by decide +kernel)
set_option maxRecDepth 65536 in
theorem w_c1 : (Jvm.Cond.code ({ cls := "com/example/object_access_rules/objectaccessrules/Result", name := "<init>", desc := "(Lcom/example/object_access_rules/objectaccessrules/Decision;Lcom/example/object_access_rules/objectaccessrules/StatusCode;Ljava/lang/String;)V" } : Jvm.MethodName) prog_37_method_1_code (4 : Nat) (Option.none : Option Jvm.ClassFile.FieldType)).before args0 about1 = true := code_word (m := ⟨11, 0⟩) (meth := k11m0) (c := k11c0) (by decide +kernel) rfl rfl rfl (by decide +kernel)
set_option maxRecDepth 65536 in
theorem w_c2 : (Jvm.Cond.code ({ cls := "com/example/object_access_rules/objectaccessrules/Result", name := "<init>", desc := "(Lcom/example/object_access_rules/objectaccessrules/Decision;Lcom/example/object_access_rules/objectaccessrules/StatusCode;Ljava/lang/String;Ljava/lang/String;Lcom/example/object_access_rules/objectaccessrules/Result;)V" } : Jvm.MethodName) prog_37_method_3_code (6 : Nat) (Option.none : Option Jvm.ClassFile.FieldType)).before args0 about1 = true := code_word (m := ⟨11, 1⟩) (meth := k11m1) (c := k11c1) (by decide +kernel) rfl rfl rfl (by decide +kernel)
set_option maxRecDepth 65536 in
theorem w_c3 : (Jvm.Cond.code ({ cls := "java/lang/Object", name := "<init>", desc := "()V" } : Jvm.MethodName) object_method_1_code (1 : Nat) (Option.none : Option Jvm.ClassFile.FieldType)).before args0 about1 = true := code_word (m := ⟨0, 0⟩) (meth := k0m0) (c := k0c0) (by decide +kernel) rfl rfl rfl (by decide +kernel)
set_option maxRecDepth 65536 in
theorem w_c4 : (Jvm.Cond.code ({ cls := "java/util/Objects", name := "requireNonNull", desc := "(Ljava/lang/Object;Ljava/lang/String;)Ljava/lang/Object;" } : Jvm.MethodName) jdk_31_method_11_code (2 : Nat) (Option.some (Jvm.ClassFile.FieldType.object "java/lang/Object"))).before args0 about1 = true := code_word (m := ⟨12, 1⟩) (meth := k12m1) (c := k12c1) (by decide +kernel) rfl rfl rfl (by decide +kernel)
set_option maxRecDepth 65536 in
theorem w_c5 : (Jvm.Cond.code ({ cls := "java/lang/String", name := "isEmpty", desc := "()Z" } : Jvm.MethodName) jdk_42_method_55_code (1 : Nat) (Option.some Jvm.ClassFile.FieldType.boolean)).before args0 about1 = true := code_word (m := ⟨10, 2⟩) (meth := k10m2) (c := k10c2) (by decide +kernel) rfl rfl rfl (by decide +kernel)
set_option maxRecDepth 65536 in
theorem w_c6 : (Jvm.Cond.code ({ cls := "java/lang/String", name := "valueOf", desc := "(C)Ljava/lang/String;" } : Jvm.MethodName) jdk_42_method_139_code (1 : Nat) (Option.some (Jvm.ClassFile.FieldType.object "java/lang/String"))).before args0 about1 = true := code_word (m := ⟨10, 3⟩) (meth := k10m3) (c := k10c3) (by decide +kernel) rfl rfl rfl (by decide +kernel)
set_option maxRecDepth 65536 in
theorem w_c7 : (Jvm.Cond.code ({ cls := "java/lang/StringLatin1", name := "canEncode", desc := "(C)Z" } : Jvm.MethodName) jdk_43_method_3_code (1 : Nat) (Option.some Jvm.ClassFile.FieldType.boolean)).before args0 about1 = true := code_word (m := ⟨13, 1⟩) (meth := k13m1) (c := k13c1) (by decide +kernel) rfl rfl rfl (by decide +kernel)
set_option maxRecDepth 65536 in
theorem w_c8 : (Jvm.Cond.code ({ cls := "java/lang/StringLatin1", name := "toBytes", desc := "(C)[B" } : Jvm.MethodName) jdk_43_method_46_code (1 : Nat) (Option.some (Jvm.ClassFile.FieldType.array Jvm.ClassFile.FieldType.byte))).before args0 about1 = true := code_word (m := ⟨13, 2⟩) (meth := k13m2) (c := k13c2) (by decide +kernel) rfl rfl rfl (by decide +kernel)
set_option maxRecDepth 65536 in
theorem w_c9 : (Jvm.Cond.code ({ cls := "java/lang/String", name := "<init>", desc := "([BB)V" } : Jvm.MethodName) jdk_42_method_151_code (3 : Nat) (Option.none : Option Jvm.ClassFile.FieldType)).before args0 about1 = true := code_word (m := ⟨10, 5⟩) (meth := k10m5) (c := k10c5) (by decide +kernel) rfl rfl rfl (by decide +kernel)
set_option maxRecDepth 65536 in
theorem w_c10 : (Jvm.Cond.code ({ cls := "com/example/object_access_rules/objectaccessrules/Result", name := "through", desc := "(Ljava/lang/String;)Lcom/example/object_access_rules/objectaccessrules/Result;" } : Jvm.MethodName) prog_37_method_13_code (2 : Nat) (Option.some (Jvm.ClassFile.FieldType.object "com/example/object_access_rules/objectaccessrules/Result"))).before args0 about1 = true := code_word (m := ⟨11, 3⟩) (meth := k11m3) (c := k11c3) (by decide +kernel) rfl rfl rfl (by decide +kernel)
set_option maxRecDepth 65536 in
theorem w_c11 : (Jvm.Cond.code ({ cls := "com/example/object_access_rules/objectaccessrules/Result", name := "origin", desc := "()Lcom/example/object_access_rules/objectaccessrules/Result;" } : Jvm.MethodName) prog_37_method_12_code (2 : Nat) (Option.some (Jvm.ClassFile.FieldType.object "com/example/object_access_rules/objectaccessrules/Result"))).before args0 about1 = true := code_word (m := ⟨11, 2⟩) (meth := k11m2) (c := k11c2) (by decide +kernel) rfl rfl rfl (by decide +kernel)
set_option maxRecDepth 65536 in
theorem w_c12 : (Jvm.Cond.code ({ cls := "com/example/object_access_rules/objectaccessrules/Result", name := "asDeny", desc := "()Lcom/example/object_access_rules/objectaccessrules/Result;" } : Jvm.MethodName) prog_37_method_14_code (1 : Nat) (Option.some (Jvm.ClassFile.FieldType.object "com/example/object_access_rules/objectaccessrules/Result"))).before args0 about1 = true := code_word (m := ⟨11, 4⟩) (meth := k11m4) (c := k11c4) (by decide +kernel) rfl rfl rfl (by decide +kernel)
set_option maxRecDepth 65536 in
theorem w_c13 : (Jvm.Cond.code ({ cls := "java/lang/String", name := "<init>", desc := "([C)V" } : Jvm.MethodName) jdk_42_method_3_code (2 : Nat) (Option.none : Option Jvm.ClassFile.FieldType)).before args0 about1 = true := code_word (m := ⟨10, 1⟩) (meth := k10m1) (c := k10c1) (by decide +kernel) rfl rfl rfl (by decide +kernel)
set_option maxRecDepth 65536 in
theorem w_c14 : (Jvm.Cond.code ({ cls := "java/lang/String", name := "<init>", desc := "([CIILjava/lang/Void;)V" } : Jvm.MethodName) jdk_42_method_149_code (6 : Nat) (Option.none : Option Jvm.ClassFile.FieldType)).before args0 about1 = true := code_word (m := ⟨10, 4⟩) (meth := k10m4) (c := k10c4) (by decide +kernel) rfl rfl rfl (by decide +kernel)
set_option maxRecDepth 65536 in
theorem w_c15 : (Jvm.Cond.code ({ cls := "java/lang/StringUTF16", name := "compress", desc := "([CII)[B" } : Jvm.MethodName) jdk_52_method_16_code (6 : Nat) (Option.some (Jvm.ClassFile.FieldType.array Jvm.ClassFile.FieldType.byte))).before args0 about1 = true := code_word (m := ⟨14, 2⟩) (meth := k14m2) (c := k14c2) (by decide +kernel) rfl rfl rfl (by decide +kernel)
set_option maxRecDepth 65536 in
theorem w_c16 : (Jvm.Cond.code ({ cls := "java/lang/StringUTF16", name := "compress", desc := "([CI[BII)I" } : Jvm.MethodName) jdk_52_method_21_code (7 : Nat) (Option.some Jvm.ClassFile.FieldType.int)).before args0 about1 = true := code_word (m := ⟨14, 3⟩) (meth := k14m3) (c := k14c3) (by decide +kernel) rfl rfl rfl (by decide +kernel)
set_option maxRecDepth 65536 in
theorem w_c17 : (Jvm.Cond.code ({ cls := "java/lang/StringUTF16", name := "coderFromArrayLen", desc := "([BI)B" } : Jvm.MethodName) jdk_52_method_15_code (2 : Nat) (Option.some Jvm.ClassFile.FieldType.byte)).before args0 about1 = true := code_word (m := ⟨14, 1⟩) (meth := k14m1) (c := k14c1) (by decide +kernel) rfl rfl rfl (by decide +kernel)
def codes1 : List Jvm.Cond := [Jvm.Cond.code x code maxLocals ret, Jvm.Cond.code ({ cls := "com/example/object_access_rules/objectaccessrules/Result", name := "<init>", desc := "(Lcom/example/object_access_rules/objectaccessrules/Decision;Lcom/example/object_access_rules/objectaccessrules/StatusCode;Ljava/lang/String;)V" } : Jvm.MethodName) prog_37_method_1_code (4 : Nat) (Option.none : Option Jvm.ClassFile.FieldType), Jvm.Cond.code ({ cls := "com/example/object_access_rules/objectaccessrules/Result", name := "<init>", desc := "(Lcom/example/object_access_rules/objectaccessrules/Decision;Lcom/example/object_access_rules/objectaccessrules/StatusCode;Ljava/lang/String;Ljava/lang/String;Lcom/example/object_access_rules/objectaccessrules/Result;)V" } : Jvm.MethodName) prog_37_method_3_code (6 : Nat) (Option.none : Option Jvm.ClassFile.FieldType), Jvm.Cond.code ({ cls := "java/lang/Object", name := "<init>", desc := "()V" } : Jvm.MethodName) object_method_1_code (1 : Nat) (Option.none : Option Jvm.ClassFile.FieldType), Jvm.Cond.code ({ cls := "java/util/Objects", name := "requireNonNull", desc := "(Ljava/lang/Object;Ljava/lang/String;)Ljava/lang/Object;" } : Jvm.MethodName) jdk_31_method_11_code (2 : Nat) (Option.some (Jvm.ClassFile.FieldType.object "java/lang/Object")), Jvm.Cond.code ({ cls := "java/lang/String", name := "isEmpty", desc := "()Z" } : Jvm.MethodName) jdk_42_method_55_code (1 : Nat) (Option.some Jvm.ClassFile.FieldType.boolean), Jvm.Cond.code ({ cls := "java/lang/String", name := "valueOf", desc := "(C)Ljava/lang/String;" } : Jvm.MethodName) jdk_42_method_139_code (1 : Nat) (Option.some (Jvm.ClassFile.FieldType.object "java/lang/String")), Jvm.Cond.code ({ cls := "java/lang/StringLatin1", name := "canEncode", desc := "(C)Z" } : Jvm.MethodName) jdk_43_method_3_code (1 : Nat) (Option.some Jvm.ClassFile.FieldType.boolean), Jvm.Cond.code ({ cls := "java/lang/StringLatin1", name := "toBytes", desc := "(C)[B" } : Jvm.MethodName) jdk_43_method_46_code (1 : Nat) (Option.some (Jvm.ClassFile.FieldType.array Jvm.ClassFile.FieldType.byte)), Jvm.Cond.code ({ cls := "java/lang/String", name := "<init>", desc := "([BB)V" } : Jvm.MethodName) jdk_42_method_151_code (3 : Nat) (Option.none : Option Jvm.ClassFile.FieldType), Jvm.Cond.code ({ cls := "com/example/object_access_rules/objectaccessrules/Result", name := "through", desc := "(Ljava/lang/String;)Lcom/example/object_access_rules/objectaccessrules/Result;" } : Jvm.MethodName) prog_37_method_13_code (2 : Nat) (Option.some (Jvm.ClassFile.FieldType.object "com/example/object_access_rules/objectaccessrules/Result")), Jvm.Cond.code ({ cls := "com/example/object_access_rules/objectaccessrules/Result", name := "origin", desc := "()Lcom/example/object_access_rules/objectaccessrules/Result;" } : Jvm.MethodName) prog_37_method_12_code (2 : Nat) (Option.some (Jvm.ClassFile.FieldType.object "com/example/object_access_rules/objectaccessrules/Result")), Jvm.Cond.code ({ cls := "com/example/object_access_rules/objectaccessrules/Result", name := "asDeny", desc := "()Lcom/example/object_access_rules/objectaccessrules/Result;" } : Jvm.MethodName) prog_37_method_14_code (1 : Nat) (Option.some (Jvm.ClassFile.FieldType.object "com/example/object_access_rules/objectaccessrules/Result")), Jvm.Cond.code ({ cls := "java/lang/String", name := "<init>", desc := "([C)V" } : Jvm.MethodName) jdk_42_method_3_code (2 : Nat) (Option.none : Option Jvm.ClassFile.FieldType), Jvm.Cond.code ({ cls := "java/lang/String", name := "<init>", desc := "([CIILjava/lang/Void;)V" } : Jvm.MethodName) jdk_42_method_149_code (6 : Nat) (Option.none : Option Jvm.ClassFile.FieldType), Jvm.Cond.code ({ cls := "java/lang/StringUTF16", name := "compress", desc := "([CII)[B" } : Jvm.MethodName) jdk_52_method_16_code (6 : Nat) (Option.some (Jvm.ClassFile.FieldType.array Jvm.ClassFile.FieldType.byte)), Jvm.Cond.code ({ cls := "java/lang/StringUTF16", name := "compress", desc := "([CI[BII)I" } : Jvm.MethodName) jdk_52_method_21_code (7 : Nat) (Option.some Jvm.ClassFile.FieldType.int), Jvm.Cond.code ({ cls := "java/lang/StringUTF16", name := "coderFromArrayLen", desc := "([BI)B" } : Jvm.MethodName) jdk_52_method_15_code (2 : Nat) (Option.some Jvm.ClassFile.FieldType.byte)]
set_option maxRecDepth 65536 in
theorem codes_eq : words1.filter isCode = codes1 := rfl
theorem w_codes : ∀ c ∈ words1.filter isCode, c.before args0 about1 = true := by
  rw [codes_eq]
  intro c hc
  simp only [codes1, List.mem_cons, List.not_mem_nil, or_false] at hc
  rcases hc with rfl | rfl | rfl | rfl | rfl | rfl | rfl | rfl | rfl | rfl | rfl | rfl | rfl | rfl | rfl | rfl | rfl | rfl
  · exact w_c0
  · exact w_c1
  · exact w_c2
  · exact w_c3
  · exact w_c4
  · exact w_c5
  · exact w_c6
  · exact w_c7
  · exact w_c8
  · exact w_c9
  · exact w_c10
  · exact w_c11
  · exact w_c12
  · exact w_c13
  · exact w_c14
  · exact w_c15
  · exact w_c16
  · exact w_c17
set_option maxRecDepth 65536 in
theorem w_t1 : (words1.take 24).all (fun c => isCode c || c.before args0 about1) = true := by decide +kernel
set_option maxRecDepth 65536 in
theorem w_t2 : ((words1.drop 24).take 24).all (fun c => isCode c || c.before args0 about1) = true := by decide +kernel
set_option maxRecDepth 65536 in
theorem w_t3 : (((words1.drop 24).drop 24).take 24).all (fun c => isCode c || c.before args0 about1) = true := by decide +kernel
set_option maxRecDepth 65536 in
theorem w_t4 : ((((words1.drop 24).drop 24).drop 24).take 24).all (fun c => isCode c || c.before args0 about1) = true := by decide +kernel
set_option maxRecDepth 65536 in
theorem w_t5 : (((((words1.drop 24).drop 24).drop 24).drop 24).take 24).all (fun c => isCode c || c.before args0 about1) = true := by decide +kernel
set_option maxRecDepth 65536 in
theorem w_t6 : (((((words1.drop 24).drop 24).drop 24).drop 24).drop 24).all (fun c => isCode c || c.before args0 about1) = true := by decide +kernel
theorem w_tables : (allAtoms (Jvm.Cond.code x code maxLocals ret :: tables_1)).before args0 about1 = true := by
  rw [allAtoms_all]
  show words1.all (fun c => c.before args0 about1) = true
  refine all_split ?_ w_codes
  rw [← List.take_append_drop 24 words1, List.all_append, w_t1, ← List.take_append_drop 24 (words1.drop 24), List.all_append, w_t2, ← List.take_append_drop 24 ((words1.drop 24).drop 24), List.all_append, w_t3, ← List.take_append_drop 24 (((words1.drop 24).drop 24).drop 24), List.all_append, w_t4, ← List.take_append_drop 24 ((((words1.drop 24).drop 24).drop 24).drop 24), List.all_append, w_t5, w_t6]
  rfl
set_option maxRecDepth 65536 in
theorem w_rest : rest_1_c.before args0 about1 = true := by decide +kernel
set_option maxRecDepth 65536 in
theorem w_case : (Jvm.Cond.and given_1 narrow_1).before args0 about1 = true := by decide +kernel
set_option maxRecDepth 65536 in
theorem w_consts : constsHeld consts_1 about1 := Jvm.Lit.constsHeldB_iff.mp (by decide +kernel)
theorem w_applies : (headSpec (Jvm.Cond.code x code maxLocals ret :: tables_1) room_1).applies x e0.platform about1 = true :=
  (Spec.applies_iff w_frames).mpr ⟨w_running, w_runnable, w_alone, w_named, w_hears, w_ripe, w_room, w_tables⟩
theorem atStart : AtStart classFile x code maxLocals ret World_1 tables_1 room_1 Calls_1 rest_1 Pre_1 launch0 p0 e0 about1 theMethod args0 below0 :=
  ⟨lists_1, trivial, launch0.admits_env _ _ _, launch0.least_env, fairChoices_fair.cas, fairChoices_fair.clock, w_frames, w_args, w_heap, w_applies, ⟨w_consts, trivial⟩, w_rest, w_case⟩
end start1
theorem witness_1 : WitnessClaimed_1 := ⟨start1.p0, start1.e0, start1.about1, start1.theMethod, start1.args0, start1.below0, start1.atStart⟩
end Jvm.Pilot.@@N@@
